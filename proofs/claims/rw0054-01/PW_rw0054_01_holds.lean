import PyProof.Rows.All
import Wide.All
import OpenK.AllK
import Wide.FinOn
import Lean
import PySem.Challenge.RW_rw0054_01
set_option Elab.async false
set_option maxRecDepth 100000
set_option linter.unusedSimpArgs false
set_option linter.unusedVariables false
namespace Mine
section
set_option backward.match.sparseCases false
open PySem
set_option genSizeOf false
inductive V where
  | none | bool (b : Bool) | int (i : Int) | str (s : List Nat) | tup (vs : List V) | rng (a b c : Int) | ref (k : Nat) | adr (a : Nat)
inductive O where
  | list (vs : List V) | dI (es : List (Int × V)) | dS (es : List (List Nat × V)) | it (k : Nat) (i : Nat)
inductive T where
  | none | bool (b : Bool) | int (i : Int) | str (s : List Nat) | tup (vs : List T) | list (vs : List T)
  | dI (es : List (Int × T)) | dS (es : List (List Nat × T)) | it (vs : List T) (i : Nat) | adr (a : Nat)
inductive BI where
  | len | range | list | min2 | minL | iter | next | ord | chr | hex
inductive MI where
  | append | join | lower | get
noncomputable def ltT (x y : Int × Int × Int) : Bool := decide (x.1 < y.1) || (decide (x.1 = y.1) && (decide (x.2.1 < y.2.1) || (decide (x.2.1 = y.2.1) && decide (x.2.2 < y.2.2))))
noncomputable def S (s : List Nat) : Str := ⟨s.toArray⟩
structure GX where
  gints : List Int
  flags : List (Int × List Nat)
  F : Nat → List T → Option (T × Nat)
  ro : Nat → Option (List Int) := fun _ => none
noncomputable abbrev St := List O
noncomputable abbrev Env1 := List (Option V)
noncomputable def small (i : Int) : Bool := decide (i.natAbs < 2 ^ 64)
noncomputable def lenOk (n : Nat) : Bool := decide (n ≤ 100000)
noncomputable def bnd (n : Nat) (i : Int) : Nat := if i < 0 then (i + n).toNat else min i.toNat n
noncomputable def cut {α : Type} (l : List α) (lo hi : Nat) : List α := (l.take hi).drop lo
noncomputable def lowerC (c : Nat) : Nat := if 65 ≤ c ∧ c ≤ 90 then c + 32 else c
mutual
noncomputable def vsm : V → V → Bool
  | .none, .none => true
  | .bool a, .bool b => a == b
  | .int a, .int b => a == b
  | .str a, .str b => a == b
  | .tup a, .tup b => vsms a b
  | .rng a b c, .rng a' b' c' => a == a' && b == b' && c == c'
  | .ref a, .ref b => a == b
  | .adr a, .adr b => a == b
  | _, _ => false
noncomputable def vsms : List V → List V → Bool
  | [], [] => true
  | a :: as, b :: bs => vsm a b && vsms as bs
  | _, _ => false
end
noncomputable def kvsm {κ : Type} [BEq κ] : List (κ × V) → List (κ × V) → Bool
  | [], [] => true
  | a :: as, b :: bs => a.1 == b.1 && vsm a.2 b.2 && kvsm as bs
  | _, _ => false
noncomputable def osm : O → O → Bool
  | .list a, .list b => vsms a b
  | .dI a, .dI b => kvsm a b
  | .dS a, .dS b => kvsm a b
  | .it a i, .it b j => a == b && i == j
  | _, _ => false
inductive It where
  | vs (l : List V) | seq (k i : Nat) | dk (k n i : Nat)
noncomputable def rngGo : Nat → Int → Int → List V
  | 0, _, _ => []
  | n + 1, a, c => .int a :: rngGo n (a + c) c
noncomputable def rngLen (a b c : Int) : Nat := if 0 < c then (if a < b then ((b - a - 1) / c + 1).toNat else 0) else (if b < a then ((a - b - 1) / (-c) + 1).toNat else 0)
noncomputable def atL {α : Type} (σ : St) (k : Nat) (f : List V → Option α) : Option α := match σ[k]? with
  | some (.list l) => f l
  | _ => none
noncomputable def atI {α : Type} (σ : St) (k : Nat) (f : List (Int × V) → Option α) : Option α := match σ[k]? with
  | some (.dI l) => f l
  | _ => none
noncomputable def atS {α : Type} (σ : St) (k : Nat) (f : List (List Nat × V) → Option α) : Option α := match σ[k]? with
  | some (.dS l) => f l
  | _ => none
noncomputable def atLI {α : Type} (σ : St) (k : Nat) (f : List V → Option α) (g : List (Int × V) → Option α) : Option α := match σ[k]? with
  | some (.list l) => f l
  | some (.dI l) => g l
  | _ => none
noncomputable def mkIter (σ : St) : V → Option It
  | .tup l => some (.vs l)
  | .rng a b c => some (.vs (rngGo (rngLen a b c) a c))
  | .str s => some (.vs (s.map fun c => .str [c]))
  | .ref k => atLI σ k (fun _ => some (.seq k 0)) fun es => some (.dk k es.length 0)
  | _ => none
noncomputable def nextIt (it : It) (σ : St) : Option (Option (V × It)) := match it with
  | .vs l => some (match l with
    | [] => none
    | v :: r => some (v, .vs r))
  | .seq k i => atL σ k fun l => some ((l[i]?).map fun v => (v, .seq k (i + 1)))
  | .dk k n i => atI σ k fun es => if es.length = n then some ((es[i]?).map fun e => (.int e.1, .dk k n (i + 1))) else none
noncomputable def getK {κ α : Type} [DecidableEq κ] (es : List (κ × α)) (k : κ) : Option α := (es.find? fun e => decide (e.1 = k)).map (·.2)
noncomputable def hasK {κ α : Type} [DecidableEq κ] (es : List (κ × α)) (k : κ) : Bool := es.any fun e => decide (e.1 = k)
noncomputable def putK {κ α : Type} [DecidableEq κ] (es : List (κ × α)) (k : κ) (v : α) : List (κ × α) :=
  if hasK es k then es.map fun e => if e.1 = k then (e.1, v) else e else es ++ [(k, v)]
noncomputable def intsOf : List V → Option (List Int)
  | [] => some []
  | .int i :: r => (intsOf r).map (i :: ·)
  | _ => none
noncomputable def strsOf : List V → Option (List (List Nat))
  | [] => some []
  | .str i :: r => (strsOf r).map (i :: ·)
  | _ => none
noncomputable def vints {κ : Type} : List (κ × V) → Option (List (κ × Int))
  | [] => some []
  | (k, .int i) :: r => (vints r).map ((k, i) :: ·)
  | _ => none
noncomputable def minT : (Int × Int × Int) → List (Int × Int × Int) → Int × Int × Int
  | m, [] => m
  | m, x :: r => minT (if ltT x m then x else m) r
noncomputable def sumI : List Int → Int
  | [] => 0
  | a :: r => a + sumI r
noncomputable def joinS (sep : List Nat) : List (List Nat) → List Nat
  | [] => []
  | [x] => x
  | x :: r => x ++ sep ++ joinS sep r
noncomputable def hexD (d : Nat) : Nat := if d < 10 then 48 + d else 87 + d
noncomputable def hexGo : Nat → Nat → List Nat → List Nat
  | 0, _, acc => acc
  | n + 1, x, acc => if x < 16 then hexD x :: acc else hexGo n (x / 16) (hexD (x % 16) :: acc)
noncomputable def eqD (a b : List (List Nat × Int)) : Bool := decide (a.length = b.length) && a.all fun e => decide (getK b e.1 = some e.2)
noncomputable def int1 {α : Type} (a : V) (f : Int → Option α) : Option α := match a with
  | .int i => f i
  | _ => none
noncomputable def str1 {α : Type} (a : V) (f : List Nat → Option α) : Option α := match a with
  | .str i => f i
  | _ => none
noncomputable def ref1 {α : Type} (a : V) (f : Nat → Option α) : Option α := match a with
  | .ref i => f i
  | _ => none
noncomputable def int2 {α : Type} (a b : V) (f : Int → Int → Option α) : Option α := int1 a fun i => int1 b fun j => f i j
noncomputable def tripOf (v : V) : Option (Int × Int × Int) := match v with
  | .tup [a, b, c] => int2 a b fun a b => int1 c fun c => some (a, b, c)
  | _ => none
noncomputable def tripsOf : List V → Option (List (Int × Int × Int))
  | [] => some []
  | v :: r => match tripOf v with
    | some t => (tripsOf r).map (t :: ·)
    | none => none
noncomputable def truV : V → Option Bool
  | .none => some false
  | .bool b => some b
  | .int i => some (decide (i ≠ 0))
  | .str s => if lenOk s.length then some (!s.isEmpty) else none
  | _ => none
noncomputable def addV (a b : V) (σ : St) : Option (V × St) := match a with
  | .int a => int1 b fun b => some (.int (a + b), σ)
  | .str x => str1 b fun y => if lenOk (x.length + y.length) then some (.str (x ++ y), σ) else none
  | .ref j => ref1 b fun k => atL σ j fun x => atL σ k fun y => if lenOk (x.length + y.length) then some (.ref σ.length, σ ++ [.list (x ++ y)]) else none
  | _ => none
noncomputable def mulV (a b : V) (σ : St) : Option (V × St) := match a with
  | .int a => int1 b fun b => if small a then some (.int (a * b), σ) else none
  | .str x => int1 b fun k => if decide (0 ≤ k) && decide (k ≤ 1000) && lenOk (x.length * k.toNat) then some (.str (List.replicate k.toNat x).flatten, σ) else none
  | _ => none
noncomputable def binV (op : Operator) (a b : V) (σ : St) : Option (V × St) := match op with
  | .Add => addV a b σ
  | .Mult => mulV a b σ
  | .Sub => int2 a b fun a b => some (.int (a - b), σ)
  | .FloorDiv => int2 a b fun a b => if b = 0 ∨ ¬ small a then none else some (.int (Int.fdiv a b), σ)
  | .Mod => int2 a b fun a b => if b = 0 then none else some (.int (Int.fmod a b), σ)
  | .Pow => int2 a b fun a b => if small a && decide (0 ≤ b) && decide (b ≤ 1000) then some (.int (a ^ b.toNat), σ) else none
  | .LShift => int2 a b fun a b => if small a && decide (0 ≤ b) && decide (b ≤ 1000) then some (.int (a * 2 ^ b.toNat), σ) else none
  | .BitAnd => int2 a b fun a b => some (.int (Builtin.bitAnd a b), σ)
  | _ => none
noncomputable def augAdd (a b : V) : Option V := match a with
  | .int a => int1 b fun b => some (.int (a + b))
  | .str x => str1 b fun y => if lenOk (x.length + y.length) then some (.str (x ++ y)) else none
  | _ => none
noncomputable def augV (op : Operator) (a b : V) : Option V := match op with
  | .Add => augAdd a b
  | .Sub => int2 a b fun a b => some (.int (a - b))
  | .LShift => int2 a b fun a b => if small a && decide (0 ≤ b) && decide (b ≤ 1000) then some (.int (a * 2 ^ b.toNat)) else none
  | .BitOr => int2 a b fun a b => some (.int (Builtin.bitOr a b))
  | .BitXor => int2 a b fun a b => some (.int (Builtin.bitXor a b))
  | _ => none
noncomputable def isIn (σ : St) (a b : V) : Option Bool := match a with
  | .str [c] => str1 b fun y => some (y.contains c)
  | .int i => (match b with
    | .tup l => (intsOf l).map fun ns => ns.contains i
    | .ref k => atL σ k fun l => (intsOf l).map fun ns => ns.contains i
    | _ => none)
  | _ => none
noncomputable def eqRef (σ : St) (j k : Nat) : Option Bool := atS σ j fun a => atS σ k fun b => match vints a, vints b with
  | some a, some b => if j = k then none else some (eqD a b)
  | _, _ => none
noncomputable def eqV (σ : St) (a b : V) : Option Bool := match a with
  | .int a => int1 b fun b => some (a == b)
  | .str a => str1 b fun b => some (a == b)
  | .ref j => ref1 b fun k => eqRef σ j k
  | _ => none
noncomputable def isNo (a b : V) : Option Bool := match b with
  | .none => (match a with
    | .none => some true
    | .int _ => some false
    | _ => none)
  | _ => none
noncomputable def cmpV (σ : St) (op : CmpOp) (a b : V) : Option Bool := match op with
  | .Eq => eqV σ a b
  | .NotEq => int2 a b fun a b => some (!(a == b))
  | .Lt => int2 a b fun a b => some (decide (a < b))
  | .LtE => int2 a b fun a b => some (decide (a ≤ b))
  | .Gt => int2 a b fun a b => some (decide (a > b))
  | .Is => isNo a b
  | .In => isIn σ a b
  | .NotIn => (isIn σ a b).map (!·)
  | _ => none
noncomputable def bndV (n : Nat) (o : Option V) (d : Nat) : Option Nat := match o with
  | none => some d
  | some v => match v with
    | .none => some d
    | .int i => if decide (i.natAbs ≤ 1000000) then some (bnd n i) else none
    | _ => none
noncomputable def slice1 {α : Type} (n : Nat) (lo hi : Option V) (f : Nat → Nat → α) : Option α := if lenOk n then (match bndV n lo 0, bndV n hi n with
  | some l, some h => some (f l h)
  | _, _ => none) else none
noncomputable def sliceV (σ : St) (a : V) (lo hi : Option V) : Option (V × St) := match a with
  | .str s => slice1 s.length lo hi fun l h => (.str (cut s l h), σ)
  | .ref k => atL σ k fun s => slice1 s.length lo hi fun l h => (.ref σ.length, σ ++ [.list (cut s l h)])
  | _ => none
noncomputable def sliceR (ro : Nat → Option (List Int)) (σ : St) (a h : V) : Option (V × St) := match a with
  | .adr l => (match ro l with
    | some ns => slice1 ns.length none (some h) fun _ k => (.ref σ.length, σ ++ [.list ((cut ns 0 k).map .int)])
    | none => none)
  | a => sliceV σ a none (some h)
noncomputable def idxV (σ : St) (a i : V) : Option V := int1 i fun i => match a with
  | .str s => if decide (i.natAbs ≤ 1000000) && decide (s.length ≤ 100000) then (if 0 ≤ i then s[i.toNat]?.map fun c => .str [c]
      else if -(s.length : Int) ≤ i then s[(i + s.length).toNat]?.map fun c => .str [c] else none) else none
  | .tup l => if 0 ≤ i ∧ i ≤ 200 then l[i.toNat]? else none
  | .ref k => atLI σ k (fun l => if 0 ≤ i ∧ i ≤ 200 then l[i.toNat]? else none) fun es => getK es i
  | _ => none
noncomputable def storeV (σ : St) (a i v : V) : Option St := ref1 a fun k => match i with
  | .int i => atLI σ k (fun l => if 0 ≤ i ∧ i ≤ 200 ∧ i < l.length then some (σ.set k (.list (l.set i.toNat v))) else none)
      fun es => if lenOk es.length then some (σ.set k (.dI (putK es i v))) else none
  | .str i => atS σ k fun es => if lenOk es.length then some (σ.set k (.dS (putK es i v))) else none
  | _ => none
noncomputable def arg1 {α : Type} (vs : List V) (f : V → Option α) : Option α := match vs with
  | [v] => f v
  | _ => none
noncomputable def lenV (v : V) (σ : St) : Option (V × St) := match v with
  | .str s => if lenOk s.length then some (.int s.length, σ) else none
  | .ref k => atLI σ k (fun l => if lenOk l.length then some (.int l.length, σ) else none) fun l => if lenOk l.length then some (.int l.length, σ) else none
  | _ => none
noncomputable def rngOk (a b c : Int) : Option V := if a.natAbs ≤ 100000 ∧ b.natAbs ≤ 100000 ∧ c.natAbs ≤ 100000 ∧ c ≠ 0 then some (.rng a b c) else none
noncomputable def rangeV (vs : List V) : Option V := match vs with
  | [b] => int1 b fun b => rngOk 0 b 1
  | [a, b] => int2 a b fun a b => rngOk a b 1
  | [a, b, c] => int2 a b fun a b => int1 c fun c => rngOk a b c
  | _ => none
noncomputable def listV (v : V) (σ : St) : Option (V × St) := match v with
  | .rng a b c => if decide (0 < c) && lenOk (rngLen a b c) then some (.ref σ.length, σ ++ [.list (rngGo (rngLen a b c) a c)]) else none
  | .ref k => atI σ k fun l => if lenOk l.length then some (.ref σ.length, σ ++ [.list (l.map fun e => .int e.1)]) else none
  | _ => none
noncomputable def minL1 : List (Int × Int × Int) → Option V
  | x :: r => let m := minT x r; some (.tup [.int m.1, .int m.2.1, .int m.2.2])
  | _ => none
noncomputable def nextV (σ : St) (k : Nat) : Option (V × St) := match σ[k]? with
  | some (.it j i) => atL σ j fun l => (l[i]?).map fun v => (v, σ.set k (.it j (i + 1)))
  | _ => none
noncomputable def biV (b : BI) (vs : List V) (σ : St) : Option (V × St) := match b with
  | .len => arg1 vs fun v => lenV v σ
  | .range => (rangeV vs).map fun v => (v, σ)
  | .list => arg1 vs fun v => listV v σ
  | .min2 => (match vs with
    | [a, b] => int2 a b fun a b => some (.int (if b < a then b else a), σ)
    | _ => none)
  | .minL => arg1 vs fun v => ref1 v fun k => atL σ k fun l => (match tripsOf l with
    | some ts => (minL1 ts).map fun v => (v, σ)
    | none => none)
  | .iter => arg1 vs fun v => ref1 v fun k => atL σ k fun _ => some (.ref σ.length, σ ++ [.it k 0])
  | .next => arg1 vs fun v => ref1 v (nextV σ)
  | .ord => arg1 vs fun v => str1 v fun s => (match s with
    | [c] => some (.int c, σ)
    | _ => none)
  | .chr => arg1 vs fun v => int1 v fun i => if 0 ≤ i ∧ i < 128 then some (.str [i.toNat], σ) else none
  | .hex => arg1 vs fun v => int1 v fun i => if 0 ≤ i ∧ i < 2 ^ 64 then some (.str (48 :: 120 :: hexGo 20 i.toNat []), σ) else none
noncomputable def miV (m : MI) (o : V) (vs : List V) (σ : St) : Option (V × St) := match m with
  | .append => ref1 o fun k => arg1 vs fun v => atL σ k fun l => if lenOk l.length then some (.none, σ.set k (.list (l ++ [v]))) else none
  | .join => str1 o fun sep => arg1 vs fun v => ref1 v fun k => atL σ k fun l => (match strsOf l with
    | some ss => if lenOk ((ss.map List.length).sum + ss.length * sep.length) then some (.str (joinS sep ss), σ) else none
    | none => none)
  | .lower => str1 o fun s => (match s, vs with
    | [c], [] => if c < 128 then some (.str [lowerC c], σ) else none
    | _, _ => none)
  | .get => ref1 o fun k => (match vs with
    | [i, d] => str1 i fun i => atS σ k fun es => some ((getK es i).getD d, σ)
    | _ => none)
noncomputable def mOk (σ : St) (m : MI) (o : V) : Bool := match m with
  | .append => (ref1 o fun k => atL σ k fun _ => some ()).isSome
  | .get => (ref1 o fun k => atS σ k fun _ => some ()).isSome
  | _ => (str1 o fun _ => some ()).isSome
noncomputable def frzL (f : V → Option (T × List Nat)) : List V → Option (List T × List Nat)
  | [] => some ([], [])
  | v :: r => match f v, frzL f r with
    | some (t, a), some (ts, b) => some (t :: ts, a ++ b)
    | _, _ => none
noncomputable def frzD {κ : Type} (f : V → Option (T × List Nat)) : List (κ × V) → Option (List (κ × T) × List Nat)
  | [] => some ([], [])
  | (k, v) :: r => match f v, frzD f r with
    | some (t, a), some (ts, b) => some ((k, t) :: ts, a ++ b)
    | _, _ => none
noncomputable def frzO (f : V → Option (T × List Nat)) (σ : St) (k : Nat) : O → Option (T × List Nat)
  | .list vs => (frzL f vs).map fun r => (.list r.1, r.2 ++ [k])
  | .dI es => (frzD f es).map fun r => (.dI r.1, r.2 ++ [k])
  | .dS es => (frzD f es).map fun r => (.dS r.1, r.2 ++ [k])
  | .it j i => atL σ j fun vs => (frzL f vs).map fun r => (.it r.1 i, r.2 ++ [j, k])
noncomputable def frz (σ : St) : Nat → V → Option (T × List Nat)
  | 0, _ => none
  | n + 1, v => match v with
    | .none => some (.none, [])
    | .bool b => some (.bool b, [])
    | .int i => some (.int i, [])
    | .str s => some (.str s, [])
    | .tup vs => (frzL (frz σ n) vs).map fun r => (.tup r.1, r.2)
    | .rng .. => none
    | .adr a => some (.adr a, [])
    | .ref k => match σ[k]? with
      | some o => frzO (frz σ n) σ k o
      | none => none
mutual
noncomputable def thaw : T → St → V × St
  | .none, σ => (.none, σ)
  | .bool b, σ => (.bool b, σ)
  | .int i, σ => (.int i, σ)
  | .str s, σ => (.str s, σ)
  | .tup ts, σ => let r := thaws ts σ; (.tup r.1, r.2)
  | .list ts, σ => let r := thaws ts σ; (.ref r.2.length, r.2 ++ [.list r.1])
  | .dI es, σ => let r := thawsI es σ; (.ref r.2.length, r.2 ++ [.dI r.1])
  | .dS es, σ => let r := thawsS es σ; (.ref r.2.length, r.2 ++ [.dS r.1])
  | .it ts i, σ => let r := thaws ts σ; (.ref (r.2.length + 1), r.2 ++ [.list r.1, .it r.2.length i])
  | .adr a, σ => (.adr a, σ)
noncomputable def thaws : List T → St → List V × St
  | [], σ => ([], σ)
  | t :: ts, σ => let r := thaw t σ; let q := thaws ts r.2; (r.1 :: q.1, q.2)
noncomputable def thawsI : List (Int × T) → St → List (Int × V) × St
  | [], σ => ([], σ)
  | (k, t) :: ts, σ => let r := thaw t σ; let q := thawsI ts r.2; ((k, r.1) :: q.1, q.2)
noncomputable def thawsS : List (List Nat × T) → St → List (List Nat × V) × St
  | [], σ => ([], σ)
  | (k, t) :: ts, σ => let r := thaw t σ; let q := thawsS ts r.2; ((k, r.1) :: q.1, q.2)
end
noncomputable def drawS (d : Nat) (vs : List V) (σ : St) : Option St := match d with
  | 0 => some σ
  | d + 1 => (match vs with
    | .ref k :: _ => (match σ[k]? with
      | some (.it j i) => some (σ.set k (.it j (i + (d + 1))))
      | _ => none)
    | _ => none)
noncomputable def callT (Ff : List T → Option (T × Nat)) (vs : List V) (σ : St) : Option (V × St) :=
  match frzL (frz σ 8) vs with
  | some (ts, ids) => if decide ids.Nodup then (match Ff ts with
    | some (t, d) => (drawS d vs σ).map (thaw t)
    | none => none) else none
  | none => none
noncomputable def callF (G : GX) (f : Nat) (vs : List V) (σ : St) : Option (V × St) := callT (G.F f) vs σ
noncomputable def cloop {β : Type} (f : V → St → β → Option (β × St)) : Nat → It → St → β → Option (β × St)
  | 0, _, _, _ => none
  | n + 1, it, σ, acc => match nextIt it σ with
    | some none => some (acc, σ)
    | some (some (v, it')) => match f v σ acc with
      | some (acc', σ') => cloop f n it' σ' acc'
      | none => none
    | none => none
noncomputable def frame (ρ : Env1) (fr : List (Nat × Nat)) : Nat → Env1
  | 0 => []
  | n + 1 => frame ρ fr n ++ [match fr.lookup n with | some j => (ρ[j]?).join | none => none]
noncomputable def setL (ρ : Env1) (i : Nat) (v : V) : Option Env1 := if i < ρ.length then some (ρ.set i (some v)) else none
noncomputable def setAll : Env1 → List Nat → List V → Option Env1
  | ρ, [], [] => some ρ
  | ρ, i :: is, v :: vs => match setL ρ i v with
    | some ρ => setAll ρ is vs
    | none => none
  | _, _, _ => none
noncomputable def unp (σ : St) : V → Option (List V)
  | .tup vs => some vs
  | .ref k => atL σ k some
  | _ => none
inductive Fl where
  | next | brk | ret (v : V)
noncomputable abbrev ME := Env1 → St → Option (V × St)
noncomputable abbrev MT := Env1 → St → Option (Bool × St)
noncomputable abbrev MEs := Env1 → St → Option (List V × St)
noncomputable abbrev MS := Env1 × St → Option (Fl × Env1 × St)
noncomputable def wh (t : Env1 × St → Option (Bool × St)) (b : MS) : Nat → MS
  | 0, _ => none
  | n + 1, r => match t r with
    | some (true, σ) => match b (r.1, σ) with
      | some (.next, r) => wh t b n r
      | some (.brk, r) => some (.next, r)
      | some (.ret v, r) => some (.ret v, r)
      | none => none
    | some (false, σ) => some (.next, r.1, σ)
    | none => none
noncomputable def fo (bd : V → Env1 → Option Env1) (b : MS) (o : MS) : Nat → It → MS
  | 0, _, _ => none
  | n + 1, it, r => match nextIt it r.2 with
    | some none => o r
    | some (some (v, it')) => match bd v r.1 with
      | some ρ => match b (ρ, r.2) with
        | some (.next, r) => fo bd b o n it' r
        | some (.brk, r) => some (.next, r)
        | some (.ret v, r) => some (.ret v, r)
        | none => none
      | none => none
    | none => none
noncomputable def escGo : Nat → Bool → List Nat → List V
  | i, e, [] => if e then [.tup [.int ((i : Int) - 1), .str [92]]] else []
  | i, e, c :: r => if e then .tup [.int i, .str [92, c]] :: escGo (i + 1) false r
    else if c = 92 then escGo (i + 1) true r else .tup [.int i, .str [c]] :: escGo (i + 1) false r
noncomputable def thn {α β : Type} (a : Option (α × St)) (f : α → St → Option β) : Option β := match a with
  | some (x, σ) => f x σ
  | none => none
noncomputable def kV (v : V) : ME := fun _ σ => some (v, σ)
noncomputable def kVar (i : Nat) : ME := fun ρ σ => match ρ[i]? with
  | some (some v) => some (v, σ)
  | _ => none
noncomputable def kG (G : GX) (g : Nat) : ME := fun _ σ => (G.gints[g]?).map fun i => (.int i, σ)
noncomputable def k2 (f : V → V → St → Option (V × St)) (a b : ME) : ME := fun ρ σ => thn (a ρ σ) fun x σ => thn (b ρ σ) fun y σ => f x y σ
noncomputable def kNeg (a : ME) : ME := fun ρ σ => thn (a ρ σ) fun x σ => int1 x fun i => some (.int (-i), σ)
noncomputable def kOrN (a : ME) : ME := fun ρ σ => thn (a ρ σ) fun x σ => int1 x fun i => some (if i = 0 then .none else .int i, σ)
noncomputable def fCmp (op : CmpOp) : V → V → St → Option (V × St) := fun x y σ => (cmpV σ op x y).map fun b => (.bool b, σ)
noncomputable def kIte (c : MT) (a b : ME) : ME := fun ρ σ => thn (c ρ σ) fun t σ => match t with
  | true => a ρ σ
  | false => b ρ σ
noncomputable def fSlL : V → V → St → Option (V × St) := fun x l σ => sliceV σ x (some l) none
noncomputable def fSlR (G : GX) : V → V → St → Option (V × St) := fun x h σ => sliceR G.ro σ x h
noncomputable def k3 (f : V → V → V → St → Option (V × St)) (a b c : ME) : ME := fun ρ σ => thn (a ρ σ) fun x σ => thn (b ρ σ) fun y σ => thn (c ρ σ) fun z σ => f x y z σ
noncomputable def fSlB : V → V → V → St → Option (V × St) := fun x l h σ => sliceV σ x (some l) (some h)
noncomputable def fIdx : V → V → St → Option (V × St) := fun x y σ => (idxV σ x y).map fun v => (v, σ)
noncomputable def kEs (f : List V → St → Option (V × St)) (es : MEs) : ME := fun ρ σ => thn (es ρ σ) f
noncomputable def fList : List V → St → Option (V × St) := fun vs σ => if lenOk vs.length then some (.ref σ.length, σ ++ [.list vs]) else none
noncomputable def fTup : List V → St → Option (V × St) := fun vs σ => if lenOk vs.length then some (.tup vs, σ) else none
noncomputable def kNil : MEs := fun _ σ => some ([], σ)
noncomputable def kCons (e : ME) (es : MEs) : MEs := fun ρ σ => thn (e ρ σ) fun v σ => thn (es ρ σ) fun vs σ => some (v :: vs, σ)
noncomputable def tCmp (op : CmpOp) (a b : ME) : MT := fun ρ σ => thn (a ρ σ) fun x σ => thn (b ρ σ) fun y σ => (cmpV σ op x y).map fun b => (b, σ)
noncomputable def tV (a : ME) : MT := fun ρ σ => thn (a ρ σ) fun v σ => (truV v).map fun b => (b, σ)
noncomputable def tNot (a : MT) : MT := fun ρ σ => thn (a ρ σ) fun b σ => some (!b, σ)
noncomputable def tNil (isAnd : Bool) : MT := fun _ σ => some (isAnd, σ)
noncomputable def tCons (isAnd : Bool) (e : MT) (es : MT) : MT := fun ρ σ => thn (e ρ σ) fun b σ => if b = isAnd then es ρ σ else some (b, σ)
noncomputable def kDict0 (b : Bool) : ME := fun _ σ => some (.ref σ.length, σ ++ [if b then .dS [] else .dI []])
noncomputable def kMeth (m : MI) (o : ME) (es : MEs) : ME := fun ρ σ => thn (o ρ σ) fun x σ => if mOk σ m x then thn (es ρ σ) fun vs σ => miV m x vs σ else none
noncomputable def kFlag (G : GX) (a b : ME) : ME := fun ρ σ => thn (a ρ σ) fun x σ => int1 x fun i => thn (b ρ σ) fun d σ => some (((getK G.flags i).map V.str).getD d, σ)
noncomputable def kSumVals (a : ME) : ME := fun ρ σ => thn (a ρ σ) fun x σ => ref1 x fun k => atI σ k fun es => (vints es).map fun ns => (.int (sumI (ns.map (·.2))), σ)
noncomputable def tCmp2 (o1 o2 : CmpOp) (a b c : ME) : MT := fun ρ σ => thn (a ρ σ) fun x σ => thn (b ρ σ) fun y σ => match cmpV σ o1 x y with
  | some true => thn (c ρ σ) fun z σ => (cmpV σ o2 y z).map fun b => (b, σ)
  | some false => some (false, σ)
  | none => none
noncomputable def turn {β : Type} (ρf : Env1) (X : Nat) (ifs : MT) (f : Env1 → St → β → Option (β × St)) : V → St → β → Option (β × St) := fun v σ acc => match setL ρf X v with
  | some ρ' => thn (ifs ρ' σ) fun t σ => match t with
    | true => f ρ' σ acc
    | false => some (acc, σ)
  | none => none
noncomputable def gL (elt : ME) : Env1 → St → List V → Option (List V × St) := fun ρ σ acc => thn (elt ρ σ) fun y σ => if lenOk acc.length then some (acc ++ [y], σ) else none
noncomputable def gD (k e : ME) : Env1 → St → List (Int × V) → Option (List (Int × V) × St) := fun ρ σ acc => thn (k ρ σ) fun kk σ => int1 kk fun kk => thn (e ρ σ) fun y σ => if lenOk acc.length then some (putK acc kk y, σ) else none
noncomputable def kComp {β : Type} (it : ME) (loop : Env1 → It → St → Option (β × St)) (mk : β → St → Option (V × St)) : ME := fun ρ σ => thn (it ρ σ) fun x σ => match mkIter σ x with
  | some i => thn (loop ρ i σ) mk
  | none => none
noncomputable def mkD (acc : List (Int × V)) (σ : St) : Option (V × St) := some (.ref σ.length, σ ++ [.dI acc])
noncomputable def kLcomp (fr : List (Nat × Nat)) (nv X : Nat) (it : ME) (ifs : MT) (elt : ME) : ME := kComp it (fun ρ i σ => cloop (turn (frame ρ fr nv) X ifs (gL elt)) 10000 i σ []) fList
noncomputable def kDcomp (fr : List (Nat × Nat)) (nv X : Nat) (it : ME) (ifs : MT) (k e : ME) : ME := kComp it (fun ρ i σ => cloop (turn (frame ρ fr nv) X ifs (gD k e)) 10000 i σ []) mkD
noncomputable def gIn {β : Type} (Y : Nat) (it2 : ME) (ifs : MT) (f : Env1 → St → β → Option (β × St)) : Env1 → St → β → Option (β × St) := fun ρ σ acc => thn (it2 ρ σ) fun x σ => match mkIter σ x with
  | some i => cloop (turn ρ Y ifs f) 10000 i σ acc
  | none => none
noncomputable def kLcomp2 (fr : List (Nat × Nat)) (nv X : Nat) (it : ME) (Y : Nat) (it2 : ME) (ifs : MT) (elt : ME) : ME := kComp it (fun ρ i σ => cloop (turn (frame ρ fr nv) X (tNil true) (gIn Y it2 ifs (gL elt))) 10000 i σ []) fList
noncomputable def sNil : MS := fun r => some (.next, r)
noncomputable def sCons (s ss : MS) : MS := fun r => match s r with
  | some (.next, r) => ss r
  | x => x
noncomputable def nxt (ρ : Env1) (i : Nat) (v : V) (σ : St) : Option (Fl × Env1 × St) := (setL ρ i v).map fun ρ => (.next, ρ, σ)
noncomputable def sAsg (i : Nat) (e : ME) : MS := fun r => thn (e r.1 r.2) fun v σ => nxt r.1 i v σ
noncomputable def sAsg2 (i j : Nat) (e : ME) : MS := fun r => thn (e r.1 r.2) fun v σ => match setL r.1 i v with
  | some ρ => nxt ρ j v σ
  | none => none
noncomputable def sSwap (i j : Nat) (a b : ME) : MS := fun r => thn (a r.1 r.2) fun x σ => thn (b r.1 σ) fun y σ => match setL r.1 i x with
  | some ρ => nxt ρ j y σ
  | none => none
noncomputable def sSub (a i e : ME) : MS := fun r => thn (e r.1 r.2) fun v σ => thn (a r.1 σ) fun x σ => thn (i r.1 σ) fun y σ => (storeV σ x y v).map fun σ => (.next, r.1, σ)
noncomputable def sAug (i : Nat) (op : Operator) (e : ME) : MS := fun r => match r.1[i]? with
  | some (some x) => thn (e r.1 r.2) fun y σ => (match augV op x y with
    | some v => nxt r.1 i v σ
    | none => none)
  | _ => none
noncomputable def sIf (c : MT) (b o : MS) : MS := fun r => thn (c r.1 r.2) fun t σ => match t with
  | true => b (r.1, σ)
  | false => o (r.1, σ)
noncomputable def sWh (c : MT) (b : MS) : MS := fun r => wh (fun r => c r.1 r.2) b 10000 r
noncomputable def sForB (bd : V → Env1 → Option Env1) (it : ME) (b o : MS) : MS := fun r => thn (it r.1 r.2) fun x σ => match mkIter σ x with
  | some i => fo bd b o 10000 i (r.1, σ)
  | none => none
noncomputable def sFor (X : Nat) (it : ME) (b o : MS) : MS := sForB (fun v ρ => setL ρ X v) it b o
noncomputable def sRet (e : ME) : MS := fun r => thn (e r.1 r.2) fun v σ => some (.ret v, r.1, σ)
noncomputable def sAsgT (is : List Nat) (e : ME) : MS := fun r => thn (e r.1 r.2) fun v σ => match unp σ v with
  | some vs => (setAll r.1 is vs).map fun ρ => (.next, ρ, σ)
  | none => none
noncomputable def sExpr (e : ME) : MS := fun r => thn (e r.1 r.2) fun _ σ => some (.next, r.1, σ)
noncomputable def sBrk : MS := fun r => some (.brk, r)
noncomputable def bTup (is : List Nat) : V → Env1 → Option Env1 := fun v ρ => match v with | .tup vs => setAll ρ is vs | _ => none
noncomputable def sForT (Xs : List Nat) (it : ME) (b : MS) : MS := sForB (bTup Xs) it b sNil
noncomputable def sEsc (i j : Nat) (e : ME) (b : MS) : MS := fun r => thn (e r.1 r.2) fun x σ => str1 x fun s => if lenOk s.length then fo (bTup [i, j]) b sNil 1000000 (.vs (escGo 0 false s)) (r.1, σ) else none
noncomputable def nones : Nat → Env1
  | 0 => []
  | n + 1 => none :: nones n
noncomputable def argIt (vs : List V) : Option Nat := match vs with
  | .ref k :: _ => some k
  | _ => none
noncomputable def itSame : O → O → Bool
  | .it j _, .it j' _ => j == j'
  | _, _ => false
noncomputable def sameAll (a : Option Nat) : Nat → St → St → Bool
  | _, [], _ => true
  | n, x :: r, y :: q => (osm x y || (a == some n && itSame x y)) && sameAll a (n + 1) r q
  | _, _, [] => false
noncomputable def drawn (a : Option Nat) (σ σ' : St) : Option Nat := match a with
  | some k => match σ[k]?, σ'[k]? with
    | some (.it _ i), some (.it _ j) => if i ≤ j then some (j - i) else none
    | _, _ => some 0
  | none => some 0
noncomputable def runF (nv : Nat) (ms : MS) (ts : List T) : Option (T × Nat) :=
  let q := thaws ts []
  match ms (q.1.map some ++ nones (nv - ts.length), q.2) with
  | some (.ret v, _, σ) => match frz σ 8 v with
    | some (t, ids) => if decide ids.Nodup && ids.all (fun k => decide (q.2.length ≤ k)) && sameAll (argIt q.1) 0 q.2 σ then (drawn (argIt q.1) q.2 σ).map fun d => (t, d) else none
    | none => none
  | _ => none
end
section
set_option backward.match.sparseCases false
open PySem PySem.W PySem.W.X PyProof.Rows PySem.Calls
noncomputable def prog : Program := PySem.Challenge.pw_rw0054_01
noncomputable def vw : Program := PySem.W.view prog [1, 2, 3, 4, 5, 7, 8, 9, 11, 12, 13, 15, 16, 17, 18, 19, 20, 21, 22, 23, 24, 25]
noncomputable def ls : List PySem.Str := ["COMPILER_FLAG_NAMES"]
noncomputable def rowW : RowW := OpenRow.toRowW (OpenLaw.row PySem.Challenge.rw_rw0054_01)
noncomputable def xt (s : Shared) : Bool := xlAt vw [] s && recOk (RowW.records rowW) s
noncomputable def ks (P : Params) (n : PySem.Str) (t : Nat) (v : Value) : DictEntry := ⟨PyData.keyHash P n, .str n t, v⟩
noncomputable def ki (i : Int) (t : Nat) (v : Value) : DictEntry := ⟨i, .int i t, v⟩
noncomputable def dO (es : List DictEntry) (n : Nat) : Obj := { cls := .type "dict", data := .dict es.toArray n }
noncomputable def kF (P : Params) : Frag := [(1, boot_o_1 P), (3, dO [ks P "__name__" 165 (.str "law_rw0054_01" 309), ks P "__doc__" 166 .none, ks P "__package__" 167 .none, ks P "__loader__" 168 (.builtin "__main__.__loader__#opaque"), ks P "__spec__" 169 .none, ks P "__annotations__" 170 (.ref 6), ks P "__builtins__" 171 (.ref 4), ks P "__file__" 173 (.str "/claim/cut.py" 172), ks P "__cached__" 174 .none, ks P "_MAX_STRING_SIZE" 190 (.int 40 189), ks P "_MOVE_COST" 192 (.int 2 191), ks P "_CASE_COST" 194 (.int 1 193), ks P "_substitution_cost" 202 (.ref 21), ks P "_levenshtein_distance" 222 (.ref 28), ks P "COMPILER_FLAG_NAMES" 255 (.ref 29), ks P "pretty_flags" 265 (.ref 36), ks P "_parse_varint" 274 (.ref 43), ks P "_iter_escaped_chars" 286 (.ref 50), ks P "_strip_quoted_realnames" 298 (.ref 57), ks P "_check_parenthesis" 308 (.ref 64), ks P "_law_numbers" 316 (.ref 69), ks P "_law_laid" 333 (.ref 76), ks P "_law_read" 339 (.ref 81), ks P "_law_pairs" 345 (.ref 86), ks P "_law_word" 355 (.ref 93), ks P "_law_table" 361 (.ref 98), ks P "_law_joined" 367 (.ref 103), ks P "_law_part" 374 (.ref 110), ks P "_law_told" 385 (.ref 117), ks P "_law_due" 391 (.ref 122), ks P "law" 397 (.ref 127)] 31), (29, dO [ki 1 225 (.str "OPTIMIZED" 226), ki 2 227 (.str "NEWLOCALS" 228), ki 4 229 (.str "VARARGS" 230), ki 8 231 (.str "VARKEYWORDS" 232), ki 16 233 (.str "NESTED" 234), ki 32 235 (.str "GENERATOR" 236), ki 64 237 (.str "NOFREE" 238), ki 128 239 (.str "COROUTINE" 240), ki 256 241 (.str "ITERABLE_COROUTINE" 242), ki 512 243 (.str "ASYNC_GENERATOR" 244)] 10)]
noncomputable def scrA : Nat := 128
noncomputable def gnN : List PySem.Str := ["_MAX_STRING_SIZE", "_MOVE_COST", "_CASE_COST"]
noncomputable def fnN : List PySem.Str := ["_substitution_cost", "_levenshtein_distance", "pretty_flags", "_parse_varint", "_iter_escaped_chars", "_strip_quoted_realnames", "_check_parenthesis", "_law_numbers", "_law_laid", "_law_read", "_law_pairs", "_law_word", "_law_table", "_law_joined", "_law_part", "_law_told", "_law_due", "law"]
noncomputable def flN : PySem.Str := "COMPILER_FLAG_NAMES"
noncomputable def genN : PySem.Str := "_iter_escaped_chars"
noncomputable def GT (gi : List Int) (fl : List (Int × List Nat)) (tab : Nat → Option (Nat × Nat × (GX → MS))) (ro : Nat → Option (List Int)) : Nat → GX
  | 0 => ⟨gi, fl, fun _ _ => none, ro⟩
  | n + 1 => ⟨gi, fl, fun f ts => match tab f with
    | some (nv, np, b) => if ts.length = np then runF nv (b (GT gi fl tab ro n)) ts else none
    | none => none, ro⟩
noncomputable def roN (ns : List Int) : Nat → Option (List Int) := fun a => if a = scrA then some ns else none
structure Wd where
  w : World
  hb : Heap
  mg : PySem.Str → Option Value
  mb : PySem.Str → Option Value
  ns : List Int
structure Facts (k : Wd) : Prop where
  KX : (kF k.w.params).In k.hb
  T : ∃ mean : ExcName → Option Value, Top vw (looseW vw ls) mean k.mg k.mb k.hb
  scr : ∃ xs : List Value, k.hb.get? scrA = some { cls := .type "list", data := .seq xs.toArray } ∧ IntsAre xs k.ns
  len : k.ns.length ≤ 63
noncomputable def Goal (k : Wd) : Prop := Facts k → ∀ (s : Shared) (Q E : Value → Shared → Prop), s.heap = k.hb → s.gens = #[] →
  (∀ s', (∀ a o, s.heap.get? a = some o → s'.heap.get? a = some o) → s'.os = s.os → AllBare s'.gens → Q (.bool true) s') → wpAny (model prog k.w) callerA (call (.ref 127) [.ref scrA]) Q E s
noncomputable def k0 : Wd := @Classical.epsilon Wd ⟨⟨aWorld 0, default, fun _ => none, fun _ => none, []⟩⟩ fun k => ¬ Goal k
theorem goal_all (h : Goal k0) (k : Wd) : Goal k := Classical.byContradiction fun n => @Classical.epsilon_spec Wd (fun k => ¬ Goal k) ⟨k, n⟩ h
noncomputable def w : World := k0.w
noncomputable def hb : Heap := k0.hb
noncomputable def mg : PySem.Str → Option Value := k0.mg
noncomputable def mb : PySem.Str → Option Value := k0.mb
end
section
set_option backward.match.sparseCases false
open PySem PySem.W PyProof.Rows PySem.Calls
set_option genSizeOf false
inductive All2 {α β : Type} (R : α → β → Prop) : List α → List β → Prop
  | nil : All2 R [] []
  | cons {a : α} {b : β} {as : List α} {bs : List β} : R a b → All2 R as bs → All2 R (a :: as) (b :: bs)
namespace All2
variable {α β : Type} {R R' : α → β → Prop} {a : α} {b : β} {as cs : List α} {bs ds : List β}
theorem mono (h : ∀ a b, R a b → R' a b) (r : All2 R as bs) : All2 R' as bs := by
  induction r with
  | nil => exact .nil
  | cons q _ ih => exact .cons (h _ _ q) ih
theorem map2 {γ δ : Type} {R' : γ → δ → Prop} {f : α → γ} {g : β → δ} (h : ∀ a b, R a b → R' (f a) (g b)) (r : All2 R as bs) : All2 R' (as.map f) (bs.map g) := by
  induction r with
  | nil => exact .nil
  | cons q _ ih => exact .cons (h _ _ q) ih
theorem length (r : All2 R as bs) : as.length = bs.length := by
  induction r with
  | nil => rfl
  | cons _ _ ih => exact congrArg Nat.succ ih
theorem get (r : All2 R as bs) : ∀ {i : Nat} {a : α}, as[i]? = some a → ∃ b, bs[i]? = some b ∧ R a b := by
  induction r with
  | nil => exact fun e => nomatch e
  | cons q _ ih =>
    intro i a e
    cases i with
    | zero => cases e; exact ⟨_, rfl, q⟩
    | succ i => exact ih e
theorem of_get : ∀ {as : List α} {bs : List β}, as.length = bs.length → (∀ (i : Nat) (a : α) (b : β), as[i]? = some a → bs[i]? = some b → R a b) → All2 R as bs := by
  intro as
  induction as with
  | nil =>
    intro bs hl _
    cases bs with
    | nil => exact .nil
    | cons _ _ => cases hl
  | cons a as ih =>
    intro bs hl h
    cases bs with
    | nil => cases hl
    | cons b bs => exact .cons (h 0 a b rfl rfl) (ih (Nat.succ.inj hl) fun i => h (i + 1))
theorem append (r : All2 R as bs) (q : All2 R cs ds) : All2 R (as ++ cs) (bs ++ ds) := by
  induction r with
  | nil => exact q
  | cons a _ ih => exact .cons a ih
theorem snoc (r : All2 R as bs) (q : R a b) : All2 R (as ++ [a]) (bs ++ [b]) := r.append (.cons q .nil)
theorem take (r : All2 R as bs) : ∀ n, All2 R (as.take n) (bs.take n) := by
  induction r with
  | nil => intro n; rw [List.take_nil, List.take_nil]; exact .nil
  | cons a _ ih =>
    intro n
    cases n with
    | zero => exact .nil
    | succ n => exact .cons a (ih n)
theorem drop (r : All2 R as bs) : ∀ n, All2 R (as.drop n) (bs.drop n) := by
  induction r with
  | nil => intro n; rw [List.drop_nil, List.drop_nil]; exact .nil
  | cons a q ih =>
    intro n
    cases n with
    | zero => exact .cons a q
    | succ n => exact ih n
theorem set (q : R a b) (r : All2 R as bs) : ∀ n, All2 R (as.set n a) (bs.set n b) := by
  induction r with
  | nil => exact fun _ => .nil
  | cons c r ih =>
    intro n
    cases n with
    | zero => exact .cons q r
    | succ n => exact .cons c (ih n)
end All2
noncomputable def Imm (o : Obj) : Prop := (o.cls = .type "tuple" ∧ ∃ xs n, o.data = .seq xs n) ∨ (o.cls = .type "range" ∧ ∃ vs, o.data = .fields vs)
noncomputable def ImmK (h h' : Heap) : Prop := ∀ a o, h.get? a = some o → Imm o → h'.get? a = some o
noncomputable def Pre (φ φ' : List Addr) : Prop := ∀ (k : Nat) (a : Addr), φ[k]? = some a → φ'[k]? = some a
theorem ImmK.refl (h : Heap) : ImmK h h := fun _ _ e _ => e
theorem ImmK.trans {a b c : Heap} (x : ImmK a b) (y : ImmK b c) : ImmK a c := fun q o e i => y q o (x q o e i) i
theorem notImm {o : Obj} {T : String} (c : o.cls = .type T) (h : (T == "tuple" || T == "range") = false) : ¬ Imm o := fun i => by
  rcases i with ⟨q, _⟩ | ⟨q, _⟩
  · rw [c] at q; cases q; exact absurd h (by decide)
  · rw [c] at q; cases q; exact absurd h (by decide)
inductive VR (φ : List Addr) (h : Heap) : V → Value → Prop
  | none : VR φ h .none .none
  | bool (b : Bool) : VR φ h (.bool b) (.bool b)
  | int (i : Int) (t : Tok) : VR φ h (.int i) (.int i t)
  | str (s : List Nat) (t : Tok) : VR φ h (.str s) (.str (S s) t)
  | tupI {vs : List V} {xs : List Value} {a : Addr} : h.get? a = some { cls := .type "tuple", data := .seq xs.toArray } → vs.length = xs.length → (∀ (i : Nat) (v : V) (x : Value), vs[i]? = some v → xs[i]? = some x → VR φ h v x) → VR φ h (.tup vs) (.ref a)
  | rng {a b c : Int} {r : Addr} {t u v : Tok} : IsRange h r a b c t u v → Builtin.Range.small a b c = true → VR φ h (.rng a b c) (.ref r)
  | ref {k : Nat} {a : Addr} : φ[k]? = some a → VR φ h (.ref k) (.ref a)
  | adr : VR φ h (.adr scrA) (.ref scrA)
noncomputable abbrev VRs (φ : List Addr) (h : Heap) : List V → List Value → Prop := All2 (VR φ h)
noncomputable abbrev KR {κ κ' : Type} (enc : κ → κ') (φ : List Addr) (h : Heap) : List (κ × V) → List (κ' × Value) → Prop := All2 fun e kv => kv.1 = enc e.1 ∧ VR φ h e.2 kv.2
section
variable {φ φ' : List Addr} {h h' : Heap} {v : V} {x : Value} {vs : List V} {xs : List Value}
theorem VR.tup {a : Addr} (e : h.get? a = some { cls := .type "tuple", data := .seq xs.toArray }) (r : VRs φ h vs xs) : VR φ h (.tup vs) (.ref a) :=
  .tupI e r.length fun i v x e1 e2 => by
    obtain ⟨y, e3, q⟩ := r.get e1
    rw [e2] at e3; cases e3; exact q
theorem VR.mono (hp : Pre φ φ') (hk : ImmK h h') (r : VR φ h v x) : VR φ' h' v x := by
  induction r with
  | none => exact .none
  | bool b => exact .bool b
  | int i t => exact .int i t
  | str s t => exact .str s t
  | tupI e l _ ih => exact .tupI (hk _ _ e (.inl ⟨rfl, _, _, rfl⟩)) l ih
  | rng e c => exact .rng (hk _ _ e (.inr ⟨rfl, _, rfl⟩)) c
  | ref e => exact .ref (hp _ _ e)
  | adr => exact .adr
theorem VRs.mono (hp : Pre φ φ') (hk : ImmK h h') (r : VRs φ h vs xs) : VRs φ' h' vs xs := All2.mono (fun _ _ q => q.mono hp hk) r
theorem KR.mono {κ κ' : Type} {enc : κ → κ'} {es : List (κ × V)} {kvs : List (κ' × Value)} (hp : Pre φ φ') (hk : ImmK h h') (r : KR enc φ h es kvs) : KR enc φ' h' es kvs := All2.mono (fun _ _ q => ⟨q.1, q.2.mono hp hk⟩) r
theorem VR.str' {x : List Nat} {y : Value} (r : VR φ h (.str x) y) : ∃ t, y = .str (S x) t := by cases r; exact ⟨_, rfl⟩
theorem VR.int' {x : Int} {y : Value} (r : VR φ h (.int x) y) : ∃ t, y = .int x t := by cases r; exact ⟨_, rfl⟩
theorem VR.ref' {k : Nat} {y : Value} (r : VR φ h (.ref k) y) : ∃ a, y = .ref a ∧ φ[k]? = some a := by cases r; exact ⟨_, rfl, by assumption⟩
theorem VR.tup' {y : Value} (r : VR φ h (.tup vs) y) : ∃ a xs, y = .ref a ∧ h.get? a = some { cls := .type "tuple", data := .seq xs.toArray } ∧ VRs φ h vs xs := by
  cases r with | tupI e l q => exact ⟨_, _, rfl, e, .of_get l q⟩
theorem VRs.one (r : VRs φ h [v] xs) : ∃ x, xs = [x] ∧ VR φ h v x := by
  cases r with | cons a r => cases r; exact ⟨_, rfl, a⟩
theorem VRs.two {u : V} (r : VRs φ h [v, u] xs) : ∃ x y, xs = [x, y] ∧ VR φ h v x ∧ VR φ h u y := by
  cases r with | cons a r => obtain ⟨y, rfl, b⟩ := VRs.one r; exact ⟨_, _, rfl, a, b⟩
end
noncomputable def OR (φ : List Addr) (h : Heap) : O → Addr → Prop
  | .list vs, a => ∃ xs n, h.get? a = some { cls := .type "list", data := .seq xs.toArray n } ∧ VRs φ h vs xs
  | .dI es, a => ∃ kvs, h.DictAt (intKind prog w) a kvs es.length ∧ KR id φ h es kvs
  | .dS es, a => ∃ kvs, h.DictAt (strKind prog w) a kvs es.length ∧ KR S φ h es kvs
  | .it k i, a => ∃ l, φ[k]? = some l ∧ h.IsListIter a l i
noncomputable def stT (T : String) : Bool := T == "list" || T == "dict" || T == "list_iterator"
theorem stT_imm {o : Obj} {T : String} (c : o.cls = .type T) (h : stT T = true) : ¬ Imm o := notImm c (by
  have : T = "list" ∨ T = "dict" ∨ T = "list_iterator" := by simpa [stT, or_assoc] using h
  rcases this with rfl | rfl | rfl <;> decide)
theorem DictAt_cls {K : Type} [DecidableEq K] {knd : PySem.KeyKind prog w K} {h : Heap} {a : Addr} {kvs : List (K × Value)} {n : Nat} (d : h.DictAt knd a kvs n) : ∃ ob es n, h.get? a = some ob ∧ ob.cls = .type "dict" ∧ ob.dict = none ∧ ob.data = .dict es n := by
  obtain ⟨o, es, e, ⟨c, q, _⟩, d, _⟩ := d
  exact ⟨o, es, _, e, c, q, d⟩
theorem OR.there {φ : List Addr} {h : Heap} {o : O} {a : Addr} (r : OR φ h o a) : ∃ ob T, h.get? a = some ob ∧ ob.cls = .type T ∧ stT T = true ∧ (∀ c, ob.data ≠ .cell c) := by
  cases o with
  | list vs => obtain ⟨xs, n, e, _⟩ := r; exact ⟨_, _, e, rfl, rfl, fun _ q => nomatch q⟩
  | dI es => obtain ⟨kvs, d, _⟩ := r; obtain ⟨ob, _, _, e, c, _, d⟩ := DictAt_cls d; exact ⟨_, _, e, c, rfl, fun _ q => nomatch d.symm.trans q⟩
  | dS es => obtain ⟨kvs, d, _⟩ := r; obtain ⟨ob, _, _, e, c, _, d⟩ := DictAt_cls d; exact ⟨_, _, e, c, rfl, fun _ q => nomatch d.symm.trans q⟩
  | it k i => obtain ⟨l, _, o, e, c, d⟩ := r; exact ⟨_, _, e, c, rfl, fun _ q => nomatch d.symm.trans q⟩
theorem OR.mono {φ φ' : List Addr} {h h' : Heap} (hp : Pre φ φ') (hk : ImmK h h') {o : O} {a : Addr} (ha : ∀ ob, h.get? a = some ob → h'.get? a = some ob)
    (r : OR φ h o a) : OR φ' h' o a := by
  cases o with
  | list vs => obtain ⟨xs, n, e, q⟩ := r; exact ⟨xs, n, ha _ e, q.mono hp hk⟩
  | dI es => obtain ⟨kvs, ⟨o, es', e, d⟩, q⟩ := r; exact ⟨kvs, ⟨o, es', ha _ e, d⟩, q.mono hp hk⟩
  | dS es => obtain ⟨kvs, ⟨o, es', e, d⟩, q⟩ := r; exact ⟨kvs, ⟨o, es', ha _ e, d⟩, q.mono hp hk⟩
  | it k i => obtain ⟨l, e, o, e', d⟩ := r; exact ⟨l, hp _ _ e, o, ha _ e', d⟩
structure SR (σ : St) (φ : List Addr) (s : Shared) : Prop where
  keep : ∀ a o, hb.get? a = some o → s.heap.get? a = some o
  len : φ.length = σ.length
  nd : φ.Nodup
  fresh : ∀ a ∈ φ, hb.get? a = none
  objs : ∀ (k : Nat) (o : O), σ[k]? = some o → ∃ a : Addr, φ[k]? = some a ∧ OR φ s.heap o a
  bare : AllBare s.gens
structure Go0 (P : Addr → Prop) (s s' : Shared) : Prop where
  keep : ∀ a o, s.heap.get? a = some o → ¬ P a → s'.heap.get? a = some o
  os : s'.os = s.os
  gens : ∀ (i : Nat) (g : GenState), s.gens[i]? = some g → s'.gens[i]? = some g
structure Go (P : Addr → Prop) (s s' : Shared) : Prop extends Go0 P s s' where
  live : ∀ a o, s.heap.get? a = some o → ∃ o', s'.heap.get? a = some o'
section
variable {P P' : Addr → Prop} {s s' s'' : Shared}
theorem Go.refl (P : Addr → Prop) (s : Shared) : Go P s s := ⟨⟨fun _ _ e _ => e, rfl, fun _ _ e => e⟩, fun _ o e => ⟨o, e⟩⟩
theorem Go.trans (a : Go P s s') (b : Go P' s' s'') (h : ∀ x o, s.heap.get? x = some o → ¬ P x → ¬ P' x) : Go P s s'' :=
  ⟨⟨fun x o e n => b.keep x o (a.keep x o e n) (h x o e n), b.os.trans a.os, fun i g e => b.gens i g (a.gens i g e)⟩, fun x o e => Exists.elim (a.live x o e) (b.live x)⟩
theorem Go.mono (a : Go P s s') (h : ∀ x, P x → P' x) : Go P' s s' :=
  ⟨⟨fun x o e n => a.keep x o e fun q => n (h x q), a.os, a.gens⟩, a.live⟩
noncomputable abbrev Nw (s s' : Shared) : Prop := Go (fun _ => False) s s'
theorem Go.nw (a : Go P s s') (b : Nw s' s'') : Go P s s'' := a.trans b fun _ _ _ _ q => q
theorem nw_keep {h' : Heap} {t : Nat} {d : Drawn} (h : ∀ b o, s.heap.get? b = some o → h'.get? b = some o) : Nw s ⟨h', s.gens, d, t, s.os⟩ :=
  ⟨⟨fun a o e _ => h a o e, rfl, fun _ _ e => e⟩, fun a o e => ⟨o, h a o e⟩⟩
theorem nw_push (s : Shared) (o : Obj) (t : Nat) (d : Drawn) : Nw s ⟨s.heap.push o, s.gens, d, t, s.os⟩ := nw_keep fun _ _ e => Heap.get?_push_of_some o e
theorem nw_toks (s : Shared) (t : Nat) (d : Drawn) : Nw s ⟨s.heap, s.gens, d, t, s.os⟩ := nw_keep fun _ _ e => e
theorem Nw.imm (g : Nw s s') : ImmK s.heap s'.heap := fun a o e _ => g.keep a o e id
theorem Go0.imm (g : Go0 P s s') (hP : ∀ a, P a → ∃ ob, s.heap.get? a = some ob ∧ ¬ Imm ob) : ImmK s.heap s'.heap := fun a o e i => g.keep a o e fun p => Exists.elim (hP a p) fun ob q => q.2 (Option.some.inj (e.symm.trans q.1) ▸ i)
end
theorem no_obj {h : Heap} {a : Addr} (n : ∀ o, h.get? a ≠ some o) : h.get? a = none := by
  cases e : h.get? a with
  | none => rfl
  | some o => exact absurd e (n o)
theorem none_some {α : Type} {a : Option α} {x : α} {P : Prop} (h : a = none) (e : a = some x) : P := by rw [h] at e; cases e
theorem new_addr (h : Heap) : h.get? h.objs.size = none := no_obj fun _ e => absurd (Heap.lt_size e) (Nat.lt_irrefl _)
theorem lt_of_get {α : Type} {l : List α} {i : Nat} {x : α} (e : l[i]? = some x) : i < l.length := (List.getElem?_eq_some_iff.mp e).1
noncomputable def Ext (φ : List Addr) (s : Shared) (φ' : List Addr) : Prop := Pre φ φ' ∧ ∀ a ∈ φ', a ∈ φ ∨ s.heap.get? a = none
section
variable {φ φ' φ'' : List Addr} {s s' s'' : Shared} {a : Addr}
theorem Pre.refl (φ : List Addr) : Pre φ φ := fun _ _ e => e
theorem Pre.trans (a : Pre φ φ') (b : Pre φ' φ'') : Pre φ φ'' := fun k x e => b k x (a k x e)
theorem Pre.app (φ as : List Addr) : Pre φ (φ ++ as) := fun k x e => (List.getElem?_append_left (lt_of_get e)).trans e
theorem Pre.snoc (φ : List Addr) (a : Addr) : Pre φ (φ ++ [a]) := .app φ [a]
theorem Pre.mem (p : Pre φ φ') {a : Addr} (h : a ∈ φ) : a ∈ φ' := Exists.elim (List.mem_iff_getElem?.mp h) fun k e => List.mem_of_getElem? (p k a e)
theorem Ext.refl (φ : List Addr) (s : Shared) : Ext φ s φ := ⟨.refl φ, fun _ h => .inl h⟩
theorem Ext.trans (a : Ext φ s φ') (b : Ext φ' s' φ'') (hs : ∀ x o, s.heap.get? x = some o → ∃ o', s'.heap.get? x = some o') : Ext φ s φ'' :=
  ⟨a.1.trans b.1, fun x h => (b.2 x h).elim (fun h => a.2 x h) fun h => .inr (no_obj fun o e => Exists.elim (hs x o e) fun _ e' => none_some h e')⟩
theorem Ext.app {as : List Addr} (h : ∀ a ∈ as, s.heap.get? a = none) : Ext φ s (φ ++ as) := ⟨.app φ as, fun x hx => (List.mem_append.mp hx).imp id (h x)⟩
theorem Ext.snoc (h : s.heap.get? a = none) : Ext φ s (φ ++ [a]) := .app fun _ q => List.mem_singleton.mp q ▸ h
theorem Ext.notin {o : Obj} (e : Ext φ s φ') (hn : a ∉ φ) (hx : s.heap.get? a = some o) : a ∉ φ' := fun h => (e.2 a h).elim hn fun q => none_some q hx
structure Stp (φ : List Addr) (s : Shared) (φ' : List Addr) (s' : Shared) : Prop where
  ext : Ext φ s φ'
  go : Go (· ∈ φ) s s'
theorem Stp.refl (φ : List Addr) (s : Shared) : Stp φ s φ s := ⟨.refl φ s, .refl _ s⟩
theorem Stp.trans (a : Stp φ s φ' s') (b : Stp φ' s' φ'' s'') : Stp φ s φ'' s'' :=
  ⟨a.ext.trans b.ext a.go.live, a.go.trans b.go fun _ _ e n => a.ext.notin n e⟩
theorem Stp.nw (a : Nw s s') : Stp φ s φ s' := ⟨.refl φ s, a.mono fun _ h => h.elim⟩
end
namespace SR
variable {σ : St} {φ φ' : List Addr} {s s' : Shared} {k : Nat} {a : Addr} {o : O} {l : List V}
theorem lookup (I : SR σ φ s) (h : φ[k]? = some a) : ∃ o, σ[k]? = some o ∧ OR φ s.heap o a := by
  have hk : k < σ.length := I.len ▸ lt_of_get h
  have e : σ[k]? = some σ[k] := List.getElem?_eq_getElem hk
  obtain ⟨b, eb, r⟩ := I.objs k _ e
  cases h.symm.trans eb
  exact ⟨_, e, r⟩
theorem obj (I : SR σ φ s) (e : σ[k]? = some o) (ka : φ[k]? = some a) : OR φ s.heap o a := by
  obtain ⟨b, eb, r⟩ := I.objs k o e
  cases ka.symm.trans eb
  exact r
theorem there (I : SR σ φ s) (h : a ∈ φ) : ∃ ob T, s.heap.get? a = some ob ∧ ob.cls = .type T ∧ stT T = true ∧ (∀ c, ob.data ≠ .cell c) :=
  Exists.elim (List.mem_iff_getElem?.mp h) fun _ e => Exists.elim (I.lookup e) fun _ q => q.2.there
theorem lt (I : SR σ φ s) (h : a ∈ φ) : a < s.heap.objs.size := by
  obtain ⟨_, _, e, _⟩ := I.there h
  exact Heap.lt_size e
theorem new (I : SR σ φ s) (h : s.heap.get? a = none) : a ∉ φ := fun q => by
  obtain ⟨_, _, e, _⟩ := I.there q
  exact none_some h e
theorem hbn (I : SR σ φ s) (h : s.heap.get? a = none) : hb.get? a = none := no_obj fun o e => none_some h (I.keep a o e)
theorem immK (I : SR σ φ s) {P : Addr → Prop} (g : Go P s s') (hP : ∀ a, P a → a ∈ φ) : ImmK s.heap s'.heap := fun a o e i =>
  g.keep a o e fun p => by
    obtain ⟨ob, T, e', c, t, _⟩ := I.there (hP a p)
    cases e.symm.trans e'
    exact stT_imm c t i
theorem step0 (I : SR σ φ s) {P : Addr → Prop} (g : Go0 P s s') (hP : ∀ a, P a → a ∉ φ ∧ hb.get? a = none) (hi : ImmK s.heap s'.heap) (hg : AllBare s'.gens) : SR σ φ s' where
  keep := fun a o e => g.keep a o (I.keep a o e) fun p => none_some (hP a p).2 e
  len := I.len
  nd := I.nd
  fresh := I.fresh
  objs := fun k o e => Exists.elim (I.objs k o e) fun a q => ⟨a, q.1, q.2.mono (.refl φ) hi fun ob e' => g.keep a ob e' fun p => (hP a p).1 (List.mem_of_getElem? q.1)⟩
  bare := hg
theorem step (I : SR σ φ s) {P : Addr → Prop} (g : Go P s s') (hP : ∀ a, P a → a ∉ φ ∧ hb.get? a = none) (hi : ImmK s.heap s'.heap) (hg : AllBare s'.gens) : SR σ φ s' := I.step0 g.toGo0 hP hi hg
theorem nw' (I : SR σ φ s) (g : Nw s s') (hg : AllBare s'.gens) : SR σ φ s' := I.step g (fun _ p => p.elim) g.imm hg
theorem toks (I : SR σ φ s) (t : Nat) : SR σ φ { s with toks := t } := I.nw' (nw_toks s t _) I.bare
theorem adopt (I : SR σ φ s) (hn : a ∉ φ) (hf : hb.get? a = none) (r : OR (φ ++ [a]) s.heap o a) : SR (σ ++ [o]) (φ ++ [a]) s where
  keep := I.keep
  len := by rw [List.length_append, List.length_append, I.len]; rfl
  nd := List.nodup_append.mpr ⟨I.nd, List.nodup_cons.mpr ⟨List.not_mem_nil, List.nodup_nil⟩, fun x hx y hy e => hn (List.mem_singleton.mp hy ▸ e ▸ hx)⟩
  fresh := fun x hx => (List.mem_append.mp hx).elim (I.fresh x) fun h => List.mem_singleton.mp h ▸ hf
  objs := fun k o' e => by
    rcases Nat.lt_or_ge k σ.length with h | h
    · rw [List.getElem?_append_left h] at e
      obtain ⟨b, eb, r'⟩ := I.objs k o' e
      exact ⟨b, Pre.snoc φ a k b eb, r'.mono (.snoc φ a) (.refl _) fun _ e => e⟩
    · rw [List.getElem?_append_right h] at e
      have hk : k - σ.length = 0 := Nat.lt_one_iff.mp (lt_of_get e)
      rw [hk] at e
      cases e
      refine ⟨a, ?_, r⟩
      rw [List.getElem?_append_right (I.len ▸ h), I.len, hk]; rfl
  bare := I.bare
theorem alloc (I : SR σ φ s) (g : Nw s s') (ha : s.heap.get? a = none) (hg : AllBare s'.gens) (r : OR (φ ++ [a]) s'.heap o a) : SR (σ ++ [o]) (φ ++ [a]) s' :=
  (I.nw' g hg).adopt (I.new ha) (I.hbn ha) r
theorem last (I : SR σ φ s) (a : Addr) : (φ ++ [a])[σ.length]? = some a := by
  rw [← I.len, List.getElem?_append_right (Nat.le_refl _), Nat.sub_self]; rfl
theorem put (I : SR σ φ s) (hk : φ[k]? = some a) (g : Go (· = a) s s') (hg : AllBare s'.gens) (r : OR φ s'.heap o a) : SR (σ.set k o) φ s' where
  keep := fun b ob e => g.keep b ob (I.keep b ob e) fun q => none_some (I.fresh a (List.mem_of_getElem? hk)) (q ▸ e)
  len := I.len.trans List.length_set.symm
  nd := I.nd
  fresh := I.fresh
  objs := fun j o' e => by
    by_cases hj : k = j
    · subst hj
      have hlt : k < σ.length := I.len ▸ lt_of_get hk
      rw [List.getElem?_set_self hlt] at e
      cases e
      exact ⟨a, hk, r⟩
    · rw [List.getElem?_set_ne hj] at e
      obtain ⟨b, eb, r'⟩ := I.objs j o' e
      refine ⟨b, eb, r'.mono (.refl φ) (I.immK g fun b e => e ▸ List.mem_of_getElem? hk) fun ob e' => g.keep b ob e' fun q => hj ?_⟩
      exact (List.getElem?_inj (lt_of_get hk) I.nd).mp (hk.trans (q ▸ eb).symm)
  bare := hg
theorem list (I : SR σ φ s) (el : σ[k]? = some (.list l)) (ka : φ[k]? = some a) : ∃ xs n, s.heap.get? a = some { cls := .type "list", data := .seq xs.toArray n } ∧ VRs φ s.heap l xs := I.obj el ka
end SR
section
variable {σ σ' : St} {φ φ' : List Addr} {s s' : Shared} {v : V} {z : Value} {Q : Value → Shared → Prop}
theorem VR.stp {x : Value} (r : VR φ s.heap v x) (I : SR σ φ s) (t : Stp φ s φ' s') : VR φ' s'.heap v x := r.mono t.ext.1 (I.immK t.go fun _ h => h)
theorem VRs.stp {v : List V} {x : List Value} (r : VRs φ s.heap v x) (I : SR σ φ s) (t : Stp φ s φ' s') : VRs φ' s'.heap v x := VRs.mono t.ext.1 (I.immK t.go fun _ h => h) r
noncomputable def PV (φ : List Addr) (s : Shared) (v : V) (σ' : St) (Q : Value → Shared → Prop) : Prop :=
  ∀ z s' φ', VR φ' s'.heap v z → SR σ' φ' s' → Stp φ s φ' s' → Q z s'
theorem PV.after {σ'' : St} (h : PV φ s v σ'' Q) (t : Stp φ s φ' s') : PV φ' s' v σ'' Q := fun z s2 φ2 r I t2 => h z s2 φ2 r I (t.trans t2)
theorem PV.same (h : PV φ s v σ Q) (I : SR σ φ s) (r : VR φ s.heap v z) : Q z s := h z s φ r I (.refl φ s)
theorem PV.nw (h : PV φ s v σ Q) (I : SR σ φ s) (g : Nw s s') (hg : AllBare s'.gens) (r : VR φ s'.heap v z) : Q z s' := h z s' φ r (I.nw' g hg) (.nw g)
theorem PV.toks (h : PV φ s v σ Q) (I : SR σ φ s) (t : Nat) (r : VR φ s.heap v z) : Q z { s with toks := t } := h.nw I (nw_toks s t _) I.bare r
theorem PV.int {i : Int} (h : PV φ s (.int i) σ Q) (I : SR σ φ s) (t k : Nat) : Q (.int i t) { s with toks := k } := h.toks I k (.int i t)
theorem PV.str {x : List Nat} (h : PV φ s (.str x) σ Q) (I : SR σ φ s) (t k : Nat) : Q (.str (S x) t) { s with toks := k } := h.toks I k (.str x t)
theorem PV.new {o : O} {a : Addr} (h : PV φ s (.ref σ.length) (σ ++ [o]) Q) (I : SR σ φ s) (g : Nw s s') (hg : AllBare s'.gens) (ha : s.heap.get? a = none) (r : OR (φ ++ [a]) s'.heap o a) : Q (.ref a) s' :=
  h _ _ (φ ++ [a]) (.ref (I.last a)) (I.alloc g ha hg r) ⟨.snoc ha, g.mono fun _ x => x.elim⟩
theorem PV.keep {h' : Heap} {tk : Nat} (h : PV φ s v σ Q) (I : SR σ φ s) (hk : ∀ b o, s.heap.get? b = some o → h'.get? b = some o) (r : VR φ h' v z) : Q z { s with heap := h', toks := tk } :=
  h.nw I (nw_keep hk) I.bare r
theorem PV.list {vs : List V} {xs : List Value} (h : PV φ s (.ref σ.length) (σ ++ [.list vs]) Q) (I : SR σ φ s) (t : Nat) (r : VRs φ s.heap vs xs) :
    Q (.ref s.heap.objs.size) ⟨s.heap.push { cls := .type "list", data := .seq xs.toArray }, s.gens, s.drawn, t, s.os⟩ :=
  have g := nw_push s { cls := .type "list", data := .seq xs.toArray } t s.drawn
  h.new I g I.bare (new_addr _) ⟨xs, 0, Heap.get?_push_size _ rfl, VRs.mono (.snoc _ _) g.imm r⟩
theorem PV.list2 {o : Obj} {vs : List V} {xs : List Value} (h : PV φ s (.ref σ.length) (σ ++ [.list vs]) Q) (I : SR σ φ s) (t : Nat) (r : VRs φ s.heap vs xs) :
    Q (.ref (s.heap.push o).objs.size) ⟨(s.heap.push o).push { cls := .type "list", data := .seq xs.toArray }, s.gens, s.drawn, t, s.os⟩ :=
  have g := nw_push s o s.toks s.drawn
  PV.list (h.after (.nw g)) (I.nw' g I.bare) t (VRs.mono (.refl φ) g.imm r)
end
end
section
set_option maxHeartbeats 2000000
set_option backward.match.sparseCases false
open PySem PySem.W PyProof.Rows PySem.Calls
section
variable {α : Type} {φ : List Addr} {h : Heap} {a b : V} {x y : Value} {r : α} {σ σ' : St}
@[elab_as_elim] theorem int1_case {f : Int → Option α} {M : Value → Prop} (ra : VR φ h a x) (e : int1 a f = some r) (k : ∀ i t, f i = some r → M (.int i t)) : M x := by
  cases ra with
  | int i t => exact k i t e
  | _ => cases e
@[elab_as_elim] theorem str1_case {f : List Nat → Option α} {M : Value → Prop} (ra : VR φ h a x) (e : str1 a f = some r) (k : ∀ i t, f i = some r → M (.str (S i) t)) : M x := by
  cases ra with
  | str i t => exact k i t e
  | _ => cases e
@[elab_as_elim] theorem ref1_case {f : Nat → Option α} {M : Value → Prop} (ra : VR φ h a x) (e : ref1 a f = some r) (k : ∀ i p, φ[i]? = some p → f i = some r → M (.ref p)) : M x := by
  cases ra with
  | ref q => exact k _ _ q e
  | _ => cases e
@[elab_as_elim] theorem int2_case {f : Int → Int → Option α} {M : Value → Value → Prop} (ra : VR φ h a x) (rb : VR φ h b y) (e : int2 a b f = some r) (k : ∀ i t j u, f i j = some r → M (.int i t) (.int j u)) : M x y :=
  int1_case (M := fun x => M x y) ra e fun i t e => int1_case rb e fun j u e => k i t j u e
theorem atL_inv {k : Nat} {f : List V → Option α} (e : atL σ k f = some r) : ∃ l, σ[k]? = some (.list l) ∧ f l = some r := by
  unfold atL at e
  cases q : σ[k]? with
  | none => rw [q] at e; cases e
  | some o =>
    rw [q] at e
    cases o with
    | list l => exact ⟨l, rfl, e⟩
    | _ => cases e
theorem atI_inv {k : Nat} {f : List (Int × V) → Option α} (e : atI σ k f = some r) : ∃ l, σ[k]? = some (.dI l) ∧ f l = some r := by
  unfold atI at e
  cases q : σ[k]? with
  | none => rw [q] at e; cases e
  | some o =>
    rw [q] at e
    cases o with
    | dI l => exact ⟨l, rfl, e⟩
    | _ => cases e
theorem atS_inv {k : Nat} {f : List (List Nat × V) → Option α} (e : atS σ k f = some r) : ∃ l, σ[k]? = some (.dS l) ∧ f l = some r := by
  unfold atS at e
  cases q : σ[k]? with
  | none => rw [q] at e; cases e
  | some o =>
    rw [q] at e
    cases o with
    | dS l => exact ⟨l, rfl, e⟩
    | _ => cases e
theorem atLI_inv {k : Nat} {f : List V → Option α} {g : List (Int × V) → Option α} (e : atLI σ k f g = some r) : (∃ l, σ[k]? = some (.list l) ∧ f l = some r) ∨ ∃ l, σ[k]? = some (.dI l) ∧ g l = some r := by
  unfold atLI at e
  cases q : σ[k]? with
  | none => rw [q] at e; cases e
  | some o =>
    rw [q] at e
    cases o with
    | list l => exact .inl ⟨l, rfl, e⟩
    | dI l => exact .inr ⟨l, rfl, e⟩
    | _ => cases e
theorem atL_case {s : Shared} {k : Nat} {p : Addr} {f : List V → Option α} (I : SR σ φ s) (ka : φ[k]? = some p) (e : atL σ k f = some r) {P : Prop}
    (H : ∀ l xs n, σ[k]? = some (.list l) → s.heap.get? p = some { cls := .type "list", data := .seq xs.toArray n } → VRs φ s.heap l xs → f l = some r → P) : P := by
  obtain ⟨l, el, e⟩ := atL_inv e
  obtain ⟨xs, n, hx, rx⟩ := I.list el ka
  exact H l xs n el hx rx e
theorem atI_case {s : Shared} {k : Nat} {p : Addr} {f : List (Int × V) → Option α} (I : SR σ φ s) (ka : φ[k]? = some p) (e : atI σ k f = some r) {P : Prop}
    (H : ∀ l kvs, σ[k]? = some (.dI l) → s.heap.DictAt (intKind prog w) p kvs l.length → KR id φ s.heap l kvs → f l = some r → P) : P := by
  obtain ⟨l, el, e⟩ := atI_inv e
  obtain ⟨kvs, hx, rx⟩ := I.obj el ka
  exact H l kvs el hx rx e
theorem atS_case {s : Shared} {k : Nat} {p : Addr} {f : List (List Nat × V) → Option α} (I : SR σ φ s) (ka : φ[k]? = some p) (e : atS σ k f = some r) {P : Prop}
    (H : ∀ l kvs, σ[k]? = some (.dS l) → s.heap.DictAt (strKind prog w) p kvs l.length → KR S φ s.heap l kvs → f l = some r → P) : P := by
  obtain ⟨l, el, e⟩ := atS_inv e
  obtain ⟨kvs, hx, rx⟩ := I.obj el ka
  exact H l kvs el hx rx e
theorem ite_c {c : Prop} [Decidable c] {o : Option α} (e : (if c then o else none) = some r) : c := Decidable.byContradiction fun n => by rw [if_neg n] at e; cases e
theorem ite_v {c : Prop} [Decidable c] {o : Option α} (e : (if c then o else none) = some r) : o = some r := by rw [if_pos (ite_c e)] at e; exact e
theorem ite_n {c : Prop} [Decidable c] {o : Option α} (e : (if c then none else o) = some r) : ¬ c := fun n => by rw [if_pos n] at e; cases e
theorem ite_w {c : Prop} [Decidable c] {o : Option α} (e : (if c then none else o) = some r) : o = some r := by rw [if_neg (ite_n e)] at e; exact e
theorem map_inv {β : Type} {o : Option β} {f : β → α} (e : o.map f = some r) : ∃ b, o = some b ∧ f b = r := Option.map_eq_some_iff.mp e
end
section
variable {σ σ' σ1 : St} {φ : List Addr} {s : Shared} {v v1 : V} {Q : Value → Shared → Prop}
theorem PV.of (h : PV φ s v σ' Q) (e : some (v1, σ1) = some (v, σ')) : PV φ s v1 σ1 Q := by cases e; exact h
theorem PV.ofv (h : PV φ s v σ Q) (e : some v1 = some v) : PV φ s v1 σ Q := by cases e; exact h
end
theorem len_ok {n : Nat} (h : lenOk n = true) : n ≤ 100000 := of_decide_eq_true h
theorem sizeLine_big : (100000 : Nat) ≤ sizeLine := by unfold sizeLine; decide
theorem len_line {n : Nat} (h : lenOk n = true) : n ≤ sizeLine := Nat.le_trans (len_ok h) sizeLine_big
theorem small_iff {a : Int} (h : small a = true) : a.natAbs < 2 ^ 64 := of_decide_eq_true h
theorem small_bits {a : Int} (h : small a = true) : Builtin.Int.intBits a ≤ 64 := by
  have := small_iff h
  exact intBits_le_64 (by omega) (by omega)
theorem small_div {a b : Int} (h : small a = true) : Builtin.divisionGoesByPylong a b = false := by
  unfold Builtin.divisionGoesByPylong
  by_cases h0 : a = 0
  · subst h0; simp
  · have : a.natAbs.log2 < 64 := (Nat.log2_lt (by omega)).mpr (small_iff h)
    simp only [beq_iff_eq, h0, if_false, Bool.and_eq_false_iff, decide_eq_false_iff_not]
    omega
theorem pow_ok {a b : Int} (h : (small a && decide (0 ≤ b) && decide (b ≤ 1000)) = true) : small a = true ∧ 0 ≤ b ∧ b ≤ 1000 := by
  rw [Bool.and_eq_true, Bool.and_eq_true] at h
  exact ⟨h.1.1, of_decide_eq_true h.1.2, of_decide_eq_true h.2⟩
theorem foldl_repN (xs : Array Nat) : ∀ (k : Nat) (acc : Array Nat), (List.foldl (· ++ ·) acc (List.replicate k xs)) = acc ++ (List.replicate k xs.toList).flatten.toArray
  | 0, acc => by simp
  | k + 1, acc => by
    rw [List.replicate_succ, List.foldl_cons, foldl_repN xs k, List.replicate_succ, List.flatten_cons]
    apply Array.ext'
    simp [Array.toList_append, List.append_assoc]
theorem S_len (x : List Nat) : (S x).length = x.length := rfl
theorem S_app (x y : List Nat) : S x ++ S y = S (x ++ y) := congrArg Str.mk (List.append_toArray x y)
theorem S_inj {x y : List Nat} (h : S x = S y) : x = y := congrArg (fun z : Str => z.cps.toList) h
theorem S_beq (x y : List Nat) : (S x == S y) = (x == y) := by
  by_cases h : x = y
  · rw [h, beq_self_eq_true, beq_self_eq_true]
  · rw [beq_eq_false_iff_ne.mpr h, beq_eq_false_iff_ne.mpr fun e => h (S_inj e)]
theorem mul_text {x : List Nat} {k : Int} (hk : 0 ≤ k) : Txt.mul (S x) k = S (List.replicate k.toNat x).flatten := by
  unfold Txt.mul
  by_cases h1 : k < 1
  · obtain rfl : k = 0 := by omega
    rfl
  · rw [if_neg h1]
    by_cases h2 : (k == 1 || (S x).length == 0) = true
    · rw [if_pos h2]
      rw [Bool.or_eq_true] at h2
      rcases h2 with h2 | h2
      · rw [beq_iff_eq.mp h2]; exact congrArg S (List.append_nil x).symm
      · have : x = [] := List.eq_nil_of_length_eq_zero (beq_iff_eq.mp h2)
        subst this
        rw [show (List.replicate k.toNat ([] : List Nat)).flatten = [] by simp]
    · rw [if_neg h2, foldl_repN]
      exact congrArg Str.mk (Array.empty_append (xs := _))
section
variable {σ σ' : St} {φ : List Addr} {A : Around} {E : Value → Shared → Prop} {s : Shared} {Q : Value → Shared → Prop} {a b v : V} {x y : Value}
theorem mulText {xs : List Nat} {t : Tok} {k : Int} {u : Tok} (h0 : 0 ≤ k) (h1 : k ≤ 1000) (hsz : xs.length * k.toNat ≤ 100000)
    (h : ∀ t' tk, Q (.str (S (List.replicate k.toNat xs).flatten) t') { s with toks := tk }) : wpAny (model prog w) A (binaryOp .Mult (.str (S xs) t) (.int k u)) Q E s := by
  have e2 : ((xs.length * k.toNat : Nat) : Int) = xs.length * k := by rw [Int.natCast_mul, Int.toNat_of_nonneg h0]
  refine SB.mul ⟨Bool.or_eq_false_iff.mpr ⟨decide_eq_false (by omega), decide_eq_false (by omega)⟩, fun hh1 _ => ?_, fun _ _ => ?_⟩ fun t' tk => ?_
  · rw [S_len]
    exact Int.not_lt.mpr ((Int.le_ediv_iff_mul_le (by omega)).mpr (by rw [← e2]; omega))
  · rw [S_len]
    have := sizeLine_big
    exact decide_eq_false (by omega)
  · rw [mul_text h0]; exact h _ _
theorem addList {l m : Addr} {xs ys : List Value} {n n2 : Nat} (hx : s.heap.get? l = some { cls := .type "list", data := .seq xs.toArray n }) (hy : s.heap.get? m = some { cls := .type "list", data := .seq ys.toArray n2 })
    (hsz : xs.length + ys.length ≤ 100000)
    (h : Q (.ref s.heap.objs.size) { s with heap := s.heap.push { cls := .type "list", data := .seq (xs ++ ys).toArray } }) :
    wpAny (model prog w) A (binaryOp .Add (.ref l) (.ref m)) Q E s :=
  concat_meets ⟨_, hx, rfl⟩ ⟨_, hy, rfl⟩ noFill_list_add seq_list_add PySem.F.slot_list_add PySem.F.entry_list_add (PySem.F.args_list_add_2 _ _)
    (AutoSeq1.list___add___list_list_0 l xs.toArray n m ys.toArray n2 (Nat.le_trans hsz sizeLine_big)) ⟨hx, hy, by rw [List.append_toArray]; exact h⟩
theorem addStr {x y : List Nat} {t u : Tok} (hc : lenOk (x.length + y.length) = true) (h : PV φ s (.str (x ++ y)) σ Q) (I : SR σ φ s) : wpAny (model prog w) A (binaryOp .Add (.str (S x) t) (.str (S y) u)) Q E s :=
  PyProof.Rows.add_str (fun t' tk => by rw [S_app]; exact h.str I _ _) (len_line hc)
theorem addV_snd (e : addV a b σ = some (v, σ')) (I : SR σ φ s) (ra : VR φ s.heap a x) (rb : VR φ s.heap b y) (h : PV φ s v σ' Q) :
    wpAny (model prog w) A (binaryOp .Add x y) Q E s := by
  cases ra with
  | int i t => exact int1_case rb e fun j u e => PyProof.Rows.add_int ((h.of e).int I _ _)
  | str i t => exact str1_case rb e fun j u e => addStr (ite_c e) (h.of (ite_v e)) I
  | ref ka =>
    exact ref1_case rb e fun j p kb e => atL_case I ka e fun _ _ _ _ hx rx e => atL_case I kb e fun _ _ _ _ hy ry e =>
      addList hx hy (by rw [← rx.length, ← ry.length]; exact len_ok (ite_c e)) ((h.of (ite_v e)).list I _ (rx.append ry))
  | _ => cases e
theorem mulV_snd (e : mulV a b σ = some (v, σ')) (I : SR σ φ s) (ra : VR φ s.heap a x) (rb : VR φ s.heap b y) (h : PV φ s v σ' Q) :
    wpAny (model prog w) A (binaryOp .Mult x y) Q E s := by
  cases ra with
  | int i t => exact int1_case rb e fun j u e => PyProof.Rows.mul_int ((h.of (ite_v e)).int I _ _) (.of_left (small_bits (ite_c e)))
  | str i t =>
    refine int1_case rb e fun j u e => ?_
    · have hc := ite_c e
      rw [Bool.and_eq_true, Bool.and_eq_true] at hc
      exact mulText (of_decide_eq_true hc.1.1) (of_decide_eq_true hc.1.2) (len_ok hc.2) fun t' tk => (h.of (ite_v e)).str I _ _
  | _ => cases e
theorem binV_snd {op : Operator} (e : binV op a b σ = some (v, σ')) (I : SR σ φ s) (ra : VR φ s.heap a x) (rb : VR φ s.heap b y) (h : PV φ s v σ' Q) :
    wpAny (model prog w) A (binaryOp op x y) Q E s := by
  cases op with
  | Add => exact addV_snd e I ra rb h
  | Mult => exact mulV_snd e I ra rb h
  | Sub => exact int2_case ra rb e fun i t j u e => PyProof.Rows.sub_int ((h.of e).int I _ _)
  | FloorDiv => exact int2_case ra rb e fun i t j u e => PyProof.Rows.floordiv_int (fun q => ite_n e (.inl q)) ((h.of (ite_w e)).int I _ _) (.inl (small_div (Classical.byContradiction fun q => ite_n e (.inr q))))
  | Mod => exact int2_case ra rb e fun i t j u e => PyProof.Rows.mod_int' (ite_n e) ((h.of (ite_w e)).int I _ _)
  | Pow => exact int2_case ra rb e fun i t j u e => PyProof.Rows.pow_int (pow_ok (ite_c e)).2.1 (Int.le_trans (Int.mul_le_mul (c := (64 : Int)) (d := 1000) (Int.ofNat_le.mpr (small_bits (pow_ok (ite_c e)).1)) (pow_ok (ite_c e)).2.2 (pow_ok (ite_c e)).2.1 (by decide)) (by decide)) ((h.of (ite_v e)).int I _ _)
  | LShift => exact int2_case ra rb e fun i t j u e => PyProof.Rows.lshift_int_small (pow_ok (ite_c e)).2.1 (by have := (pow_ok (ite_c e)).2.2; omega) (small_iff (pow_ok (ite_c e)).1) ((h.of (ite_v e)).int I _ _)
  | BitAnd => exact int2_case ra rb e fun i t j u e => PyProof.Rows.and_int ((h.of e).int I _ _)
  | _ => cases e
theorem augV_snd {op : Operator} (e : augV op a b = some v) (I : SR σ φ s) (ra : VR φ s.heap a x) (rb : VR φ s.heap b y) (h : PV φ s v σ Q) :
    wpAny (model prog w) A (inplaceOp op x y) Q E s := by
  cases op with
  | Add =>
    cases ra with
    | int i t => exact int1_case rb e fun j u e => PyProof.Rows.iadd_int ((h.ofv e).int I _ _)
    | str i t => exact str1_case rb e fun j u e => SB.iadd (fun t' tk => by rw [S_app]; exact (h.ofv (ite_v e)).str I _ _) (len_line (ite_c e))
    | _ => cases e
  | Sub => exact int2_case ra rb e fun i t j u e => PyProof.Rows.isub_int ((h.ofv e).int I _ _)
  | LShift =>
    exact int2_case ra rb e fun i t j u e => PyProof.Rows.ilshift_int (pow_ok (ite_c e)).2.1 (by
      have h1 : (Builtin.Int.intBits i : Int) ≤ 64 := Int.ofNat_le.mpr (small_bits (pow_ok (ite_c e)).1)
      have h2 := (pow_ok (ite_c e)).2.2
      omega) ((h.ofv (ite_v e)).int I _ _)
  | BitOr => exact int2_case ra rb e fun i t j u e => PyProof.Rows.ior_int ((h.ofv e).int I _ _)
  | BitXor => exact int2_case ra rb e fun i t j u e => PyProof.Rows.ixor_int ((h.ofv e).int I _ _)
  | _ => cases e
end
end
section
set_option maxHeartbeats 2000000
set_option backward.match.sparseCases false
open PySem PySem.W PyProof.Rows PySem.Calls
noncomputable def HS : Prop := ∃ o, hb.get? sysModules = some o
section
variable {σ σ' : St} {φ : List Addr} {h : Heap} {A : Around} {E : Value → Shared → Prop} {s : Shared} {Q : Value → Shared → Prop} {a b v : V} {x y : Value}
theorem intsOf_are {l : List V} {xs : List Value} (r : VRs φ h l xs) : ∀ {ns : List Int}, intsOf l = some ns → IntsAre xs ns := by
  induction r with
  | nil => intro ns e; cases e; exact .nil
  | cons a _ ih =>
    intro ns e
    cases a with
    | int i t =>
      obtain ⟨ms, e1, e2⟩ := map_inv (o := intsOf _) e
      exact e2 ▸ .cons i t (ih e1)
    | _ => cases e
theorem intsAre_kf {xs : List Value} {ns : List Int} (r : IntsAre xs ns) : kf_ints xs = true := by
  induction r with
  | nil => rfl
  | cons i t _ ih => exact ih
theorem any_contains (ns : List Int) (k : Int) : ns.any (· == k) = ns.contains k := by
  induction ns with
  | nil => rfl
  | cons a r ih => rw [List.any_cons, List.contains_cons, ih, BEq.comm]
theorem intsAre_any {k : Int} {xs : List Value} {ns : List Int} (r : IntsAre xs ns) : xs.any (isInt k) = ns.contains k := by
  rw [← any_contains]
  induction r with
  | nil => rfl
  | cons i t _ ih => exact congrArg ((i == k) || ·) ih
theorem found1 (c : Nat) (y : List Nat) : (!(Builtin.Str.occurrences (S y) (S [c]) 0 (S y).length 1).isEmpty) = y.contains c := by
  rw [show S [c] = ⟨#[c]⟩ from rfl, StrLaws.found_one]
  rw [Bool.eq_iff_iff, decide_eq_true_iff]; simp [S]
theorem isIn_snd {r : Bool} (e : isIn σ a b = some r) (I : SR σ φ s) (ra : VR φ s.heap a x) (rb : VR φ s.heap b y) :
    (Q (.bool r) s → wpAny (model prog w) A (compareOp .In x y) Q E s) ∧ (Q (.bool (!r)) s → wpAny (model prog w) A (compareOp .NotIn x y) Q E s) := by
  have onInts : ∀ {l : List V} {xs : List Value} {i : Int}, ((intsOf l).map fun ns => ns.contains i) = some r → VRs φ s.heap l xs → ∃ ns, IntsAre xs ns ∧ ns.contains i = r := fun e q => by
    obtain ⟨ns, e1, e2⟩ := map_inv e
    exact ⟨ns, intsOf_are q e1, e2⟩
  cases ra with
  | str i t =>
    match i, e with
    | [c], e =>
      refine str1_case (M := fun y => (Q (.bool r) s → wpAny (model prog w) A (compareOp .In _ y) Q E s) ∧ (Q (.bool (!r)) s → wpAny (model prog w) A (compareOp .NotIn _ y) Q E s)) rb e fun y u e => ?_
      have e : y.contains c = r := Option.some.inj e
      rw [← e, ← found1 c y]
      exact ⟨fun h => SB.contains h, fun h => SB.notContains h⟩
    | [], e => cases e
    | _ :: _ :: _, e => cases e
  | int i t =>
    cases rb with
    | tupI g l q =>
      obtain ⟨ns, hi, e⟩ := onInts e (.of_get l q)
      rw [← e, ← any_contains]
      exact ⟨fun h => in_tuple_ints ⟨_, g, rfl, _, rfl⟩ hi h, fun h => notin_tuple_ints ⟨_, g, rfl, _, rfl⟩ hi h⟩
    | ref kb =>
      refine atL_case I kb e fun _ xs n _ hx rx e => ?_
      obtain ⟨ns, hi, e⟩ := onInts e rx
      rw [← e, ← intsAre_any hi]
      have he : ∀ y, y ∈ xs.toArray → MeetsSeq.EqGives y (.int i t) (isInt i y) := fun y hy => kf_eq (intsAre_kf hi) y (List.mem_toArray.mp hy)
      rw [show xs.any (isInt i) = xs.toArray.any (isInt i) from (List.any_toArray ..).symm]
      exact ⟨fun h => SeqInW.in_listW (isInt i) he ⟨_, hx, rfl, _, rfl⟩ h, fun h => SeqInW.notIn_listW (isInt i) he ⟨_, hx, rfl, _, rfl⟩ h⟩
    | _ => cases e
  | _ => cases e
theorem SR.noSys (I : SR σ φ s) (hs : HS) {a : Addr} {k : Nat} (h : φ[k]? = some a) : (a == sysModules) = false :=
  beq_eq_false_iff_ne.mpr fun q => Exists.elim hs fun o e => none_some (I.fresh _ (List.mem_of_getElem? h)) (q ▸ e)
theorem valueAt_kr {κ κ' : Type} [DecidableEq κ] [DecidableEq κ'] {enc : κ → κ'} (hi : ∀ a b, enc a = enc b → a = b) {es : List (κ × V)} {kvs : List (κ' × Value)} (r : KR enc φ h es kvs) (k : κ) :
    (getK es k = none ∧ valueAt kvs (enc k) = none) ∨ ∃ v x, getK es k = some v ∧ valueAt kvs (enc k) = some x ∧ VR φ h v x := by
  induction r with
  | nil => exact .inl ⟨rfl, rfl⟩
  | @cons e kv es kvs q _ ih =>
    obtain ⟨k', v⟩ := e
    obtain ⟨k2, x⟩ := kv
    obtain ⟨q1, q2⟩ := q
    have q1 : k2 = enc k' := q1
    subst q1
    by_cases e : k' = k
    · subst e
      exact .inr ⟨v, x, by simp [getK], by simp [valueAt], q2⟩
    · have e2 : ¬ enc k' = enc k := fun q => e (hi _ _ q)
      have h1 : getK ((k', v) :: es) k = getK es k := by simp [getK, e]
      have h2 : valueAt ((enc k', x) :: kvs) (enc k) = valueAt kvs (enc k) := by simp [valueAt, e2]
      rw [h1, h2]; exact ih
theorem vints_cons {κ : Type} {k : κ} {v : V} {es : List (κ × V)} {ns : List (κ × Int)} (e : vints ((k, v) :: es) = some ns) : ∃ i ms, v = .int i ∧ vints es = some ms ∧ ns = (k, i) :: ms := by
  cases v with
  | int i =>
    obtain ⟨ms, e1, e2⟩ := map_inv (o := vints es) e
    exact ⟨i, ms, rfl, e1, e2.symm⟩
  | _ => cases e
theorem vints_getK {κ : Type} [DecidableEq κ] {k : κ} {es : List (κ × V)} : ∀ {ns : List (κ × Int)}, vints es = some ns → getK es k = (getK ns k).map V.int := by
  induction es with
  | nil => intro ns e; cases e; rfl
  | cons e es ih =>
    intro ns h
    obtain ⟨k', v⟩ := e
    obtain ⟨i, ms, rfl, e1, rfl⟩ := vints_cons h
    by_cases q : k' = k
    · simp [getK, q]
    · have := ih e1
      simpa [getK, List.find?_cons, q] using this
theorem vints_len {κ : Type} {es : List (κ × V)} : ∀ {ns : List (κ × Int)}, vints es = some ns → es.length = ns.length := by
  induction es with
  | nil => intro ns e; cases e; rfl
  | cons e es ih =>
    intro ns h
    obtain ⟨k', v⟩ := e
    obtain ⟨i, ms, rfl, e1, rfl⟩ := vints_cons h
    exact congrArg Nat.succ (ih e1)
theorem isInt_dec (i j : Int) (t : Tok) : isInt i (.int j t) = decide (some i = some j) := by
  show (j == i) = _
  by_cases e : i = j
  · simp [e]
  · rw [beq_eq_false_iff_ne.mpr fun q => e q.symm, decide_eq_false fun q => e (Option.some.inj q)]
theorem hits_of {eb : List (List Nat × V)} {kb : List (Str × Value)} {nb : List (List Nat × Int)} (vb : vints eb = some nb) (rb : KR S φ s.heap eb kb)
    {ea : List (List Nat × V)} {ka : List (Str × Value)} (ra : KR S φ s.heap ea ka) : ∀ {na : List (List Nat × Int)}, vints ea = some na → KeqHits A s kb ka (na.all fun e => decide (getK nb e.1 = some e.2)) := by
  induction ra with
  | nil => intro na e; cases e; exact .nil
  | @cons e0 kv es kvs q _ ih =>
    intro na e
    obtain ⟨k, v⟩ := e0
    obtain ⟨k2, x⟩ := kv
    obtain ⟨q1, q2⟩ := q
    have q1 : k2 = S k := q1
    subst q1
    obtain ⟨i, ms, rfl, e1, rfl⟩ := vints_cons e
    obtain ⟨t, rfl⟩ := q2.int'
    have gk := vints_getK (k := k) vb
    rw [List.all_cons]
    rcases valueAt_kr (fun _ _ => S_inj) rb k with ⟨h1, h2⟩ | ⟨v, y, h1, h2, h3⟩
    · rw [h1] at gk
      rw [Option.map_eq_none_iff.mp gk.symm]
      exact .miss h2
    · rw [h1] at gk
      obtain ⟨j, g1, g2⟩ := map_inv gk.symm
      subst g2
      obtain ⟨u, rfl⟩ := h3.int'
      rw [g1]
      exact .hit h2 (by rw [← isInt_dec j i t]; exact (MeetsSeq.EqGives.int i j t u).at A s) (ih e1)
theorem qb {r r' : Bool} (e : some r' = some r) (h : Q (.bool r) s) : Q (.bool r') s := by cases e; exact h
theorem eqRef_snd {j k : Nat} {p q : Addr} {r : Bool} (e : eqRef σ j k = some r) (I : SR σ φ s) (hs : HS) (hu : A.units + 100 < cLine)
    (ka : φ[j]? = some p) (kb : φ[k]? = some q) (h : Q (.bool r) s) : wpAny (model prog w) A (compareOp .Eq (.ref p) (.ref q)) Q E s := by
  refine atS_case I ka e fun a kva _ da rra e => atS_case I kb e fun b kvb _ db rrb e => ?_
  cases va : vints a with
  | none => rw [va] at e; cases e
  | some na =>
    cases vb : vints b with
    | none => rw [va, vb] at e; cases e
    | some nb =>
      rw [va, vb] at e
      have e := ite_w e
      refine keq_eq (I.noSys hs ka) (I.noSys hs kb) da.dictOf db.dictOf (by omega) (fun _ => hits_of vb rrb rra va) ?_
      have e1 : (kva.length == kvb.length) = decide (na.length = nb.length) := by
        rw [← rra.length, ← rrb.length, vints_len va, vints_len vb]; rfl
      rw [e1]
      exact qb e h
theorem cmpV_snd {op : CmpOp} {r : Bool} (e : cmpV σ op a b = some r) (I : SR σ φ s) (hs : HS) (hu : A.units + 100 < cLine)
    (ra : VR φ s.heap a x) (rb : VR φ s.heap b y) (h : Q (.bool r) s) : wpAny (model prog w) A (compareOp op x y) Q E s := by
  cases op with
  | Eq =>
    cases ra with
    | int i t => exact int1_case rb e fun j u e => PyProof.Rows.eq_int (qb e h)
    | str i t => exact str1_case rb e fun j u e => PyProof.Rows.eq_str (by rw [S_beq, Option.some.inj e]; exact h)
    | ref ka => exact ref1_case rb e fun j p kb e => eqRef_snd e I hs hu ka kb h
    | _ => cases e
  | NotEq => exact int2_case ra rb e fun i t j u e => PyProof.Rows.ne_int (qb e h)
  | Lt => exact int2_case ra rb e fun i t j u e => PyProof.Rows.lt_int (qb e h)
  | LtE => exact int2_case ra rb e fun i t j u e => PyProof.Rows.le_int (qb e h)
  | Gt => exact int2_case ra rb e fun i t j u e => PyProof.Rows.gt_int (qb e h)
  | Is =>
    cases rb with
    | none =>
      cases ra with
      | none => exact wpAny_is_plain rfl (qb e h)
      | int i t => exact wpAny_is_other rfl (fun q => nomatch q) (qb e h)
      | _ => cases e
    | _ => cases e
  | In => exact (isIn_snd e I ra rb).1 h
  | NotIn => exact Exists.elim (map_inv e) fun r' q => (isIn_snd q.1 I ra rb).2 (q.2 ▸ h)
  | _ => cases e
end
end
section
set_option maxHeartbeats 2000000
set_option backward.match.sparseCases false
open PySem PySem.W PyProof.Rows PySem.Calls
section
variable {K : Type} [DecidableEq K] {knd : KeyKind prog w K} {A : Around} {E : Value → Shared → Prop} {s : Shared}
theorem dictSet_at {d : Addr} {kvs : List (K × Value)} {ep : Nat} {k : K} {key v : Value} {Q : Unit → Shared → Prop} (hkey : knd.is k key = true) (hm : s.heap.DictAt knd d kvs ep)
    (hQ : ∀ h', h'.DictAt knd d (stored kvs k v) (if (kvs.any fun kv => decide (kv.1 = k)) = true then ep else ep + 1) → Heap.SameBut d s.heap h' → Q () { s with heap := h', toks := s.toks + 1 })
    (hsz : kvs.length ≤ sizeLine) : wpAny (model prog w) A (dictSet d key v) Q E s := by
  obtain ⟨o, es, ho, hc, hd, hk, hp, hn⟩ := hm
  have hel : es.size = kvs.length := by rw [← hp.length]; simp
  unfold dictSet
  try with_reducible refine wpAny_holding ?_
  refine wpAny_bind (knd.pyHash hkey ?_)
  unfold dictSetHashed
  try with_reducible refine wpAny_holding ?_
  refine wpAny_bind (wpAny_dictFind_of (s := { s with toks := s.toks + 1 }) hkey ho hd hk ?_)
  have hix : (es.findIdx? fun e => knd.is k e.key) = kvs.findIdx? fun kv => decide (kv.1 = k) := by
    rw [← hp.findIdx k]; obtain ⟨l⟩ := es; simp
  cases hi : es.findIdx? fun e => knd.is k e.key with
  | some i =>
    have hany := any_of_findIdx_some (hix ▸ hi)
    rw [if_pos hany] at hQ
    refine wpAny_bind (wpAny_rule (wpAny_bind (wpAny_updateDict (s := { s with toks := s.toks + 1 }) ho hd (wpAny_point (hQ _ ⟨_, _, Heap.get?_update_self _ ho (Obj.isFreed_of_dict (Obj.data_mapDict hd _)),
      hc.mapDict _, Obj.data_mapDict hd _, hk.modify _ _, ?_, ?_⟩ (Heap.SameBut.update ..))))))
    · rw [stored, if_pos hany]
      have hl : (es.toList.findIdx? fun e => knd.is k e.key) = some i := by rw [← hi]; obtain ⟨l⟩ := es; simp
      have := hp.modify hn hl v
      obtain ⟨l⟩ := es
      simpa using this
    · rw [stored, if_pos hany, keys_map_store]; exact hn
  | none =>
    have hnot : k ∉ kvs.map (·.1) := not_mem_of_findIdx_none (hix ▸ hi)
    have hany : ¬ (kvs.any fun kv => decide (kv.1 = k)) = true := by
      rw [List.any_eq_true]; rintro ⟨kv, hkv, he⟩
      exact hnot (List.mem_map.mpr ⟨kv, hkv, of_decide_eq_true he⟩)
    rw [if_neg hany] at hQ
    refine wpAny_bind (wpAny_rule (wpAny_updateDictKeys (hz := by omega) (s := { s with toks := s.toks + 1 }) ho hd (hQ _ ⟨_, _, Heap.get?_update_self _ ho (Obj.isFreed_of_dict (Obj.data_mapDictKeys hd _)),
      hc.mapDictKeys _, Obj.data_mapDictKeys hd _, hk.push hkey _, ?_, ?_⟩ (Heap.SameBut.update ..))))
    · rw [stored, if_neg hany]
      have := hp.append hkey (knd.hash k) v
      obtain ⟨l⟩ := es
      simpa using this
    · rw [stored, if_neg hany, List.map_append, List.nodup_append]
      refine ⟨hn, by simp, ?_⟩
      intro a ha b hb
      simp only [List.map_cons, List.map_nil, List.mem_singleton] at hb
      subst hb
      exact fun e => hnot (e ▸ ha)
theorem setItem_at {d : Addr} {kvs : List (K × Value)} {ep : Nat} {k : K} {key v : Value} {Q : Unit → Shared → Prop} (hkey : knd.is k key = true) (hm : s.heap.DictAt knd d kvs ep)
    (hQ : ∀ h', h'.DictAt knd d (stored kvs k v) (if (kvs.any fun kv => decide (kv.1 = k)) = true then ep else ep + 1) → Heap.SameBut d s.heap h' → Q () { s with heap := h', toks := s.toks + 1 })
    (hsz : kvs.length ≤ sizeLine) : wpAny (model prog w) A (setItem (.ref d) key v) Q E s := by
  unfold setItem
  try with_reducible refine wpAny_holding ?_
  refine wpAny_bind (wpAny_sequenceKey hm.dictOf.typeIs (by decide) ?_)
  refine wpAny_bind (wpAny_callSpecial?_slot (name := Str.ofString "__setitem__") hm.dictOf.typeIs slot_dict_setitem
    (wpAny_call_entry slot_dict_setitem hm.dictOf.typeIs entry_dict_setitem ?_ (args_dict_setitem _ _ _)))
  show wpAny _ _ (Builtin.Dict.notOrdered "__setitem__" ⟨[.ref d, key, v], []⟩ >>= _) _ _ s
  refine wpAny_bind (wpAny_notOrdered_dict hm.dictOf.typeIs ?_)
  show wpAny _ _ (dictSet d key v >>= _) _ _ s
  exact wpAny_bind (dictSet_at hkey hm (fun h' hm' hs' => wpAny_pure ⟨.none, rfl, wpAny_pure (hQ h' hm' hs')⟩) hsz)
end
section
variable {κ κ' : Type} [DecidableEq κ] [DecidableEq κ'] {enc : κ → κ'} {φ : List Addr} {h : Heap} {es : List (κ × V)} {kvs : List (κ' × Value)} {v : V} {x : Value}
theorem KR.any (hi : ∀ a b, enc a = enc b → a = b) (r : KR enc φ h es kvs) (k : κ) : (kvs.any fun kv => decide (kv.1 = enc k)) = hasK es k := by
  unfold hasK
  induction r with
  | nil => rfl
  | @cons e kv _ _ q _ ih =>
    rw [List.any_cons, List.any_cons, ih, q.1]
    exact congrArg (· || _) (decide_eq_decide.mpr ⟨hi _ _, congrArg enc⟩)
theorem KR.put (hi : ∀ a b, enc a = enc b → a = b) (a : VR φ h v x) (r : KR enc φ h es kvs) (k : κ) : KR enc φ h (putK es k v) (stored kvs (enc k) x) := by
  unfold putK stored
  rw [KR.any hi r]
  split
  · refine All2.map2 (fun e kv q => ?_) r
    show (if kv.1 = enc k then (kv.1, x) else kv).1 = enc (if e.1 = k then (e.1, v) else e).1 ∧ VR φ h (if e.1 = k then (e.1, v) else e).2 (if kv.1 = enc k then (kv.1, x) else kv).2
    by_cases he : e.1 = k
    · rw [if_pos he, if_pos (q.1.trans (congrArg enc he))]; exact ⟨q.1, a⟩
    · rw [if_neg he, if_neg fun p => he (hi _ _ (q.1.symm.trans p))]; exact q
  · exact r.snoc ⟨rfl, a⟩
theorem putK_len {k : κ} : (putK es k v).length = if hasK es k = true then es.length else es.length + 1 := by
  unfold putK
  split
  · exact List.length_map ..
  · exact List.length_append
end
section
variable {σ σ' : St} {φ : List Addr} {A : Around} {E : Value → Shared → Prop} {s s' : Shared} {Q : Value → Shared → Prop} {a b i v : V} {x y z : Value}
theorem go_same {s : Shared} {a : Addr} {h' : Heap} {t : Nat} {d : Drawn} (hs : Heap.SameBut a s.heap h') (hl : ∃ o, h'.get? a = some o) : Go (· = a) s ⟨h', s.gens, d, t, s.os⟩ :=
  ⟨⟨fun b o e n => (hs.2 b n).trans e, rfl, fun _ _ e => e⟩, fun b o e => by
    by_cases h : b = a
    · exact h ▸ hl
    · exact ⟨o, (hs.2 b h).trans e⟩⟩
theorem Stp.put {k : Nat} {p : Addr} (ka : φ[k]? = some p) (g : Go (· = p) s s') : Stp φ s φ s' := ⟨.refl φ s, g.mono fun _ q => q ▸ List.mem_of_getElem? ka⟩
theorem SR.immP (I : SR σ φ s) {k : Nat} {p : Addr} (ka : φ[k]? = some p) (g : Go (· = p) s s') : ImmK s.heap s'.heap := I.immK g fun _ q => q ▸ List.mem_of_getElem? ka
theorem isIntKind {i : Int} {t : Tok} : (intKind prog w).is i (.int i t) = true := beq_self_eq_true i
theorem isStrKind {x : List Nat} {t : Tok} : (strKind prog w).is (S x) (.str (S x) t) = true := beq_self_eq_true (S x)
noncomputable def PS (φ : List Addr) (s : Shared) (σ' : St) (Q : Shared → Prop) : Prop := ∀ s', SR σ' φ s' → Stp φ s φ s' → Q s'
theorem PS.of {σ1 : St} {Q : Shared → Prop} (h : PS φ s σ' Q) (e : some σ1 = some σ') : PS φ s σ1 Q := by cases e; exact h
theorem put_dict {κ κ' : Type} [DecidableEq κ] [DecidableEq κ'] {enc : κ → κ'} {knd : KeyKind prog w κ'} {mk : List (κ × V) → O} {Q : Unit → Shared → Prop} (hi : ∀ a b, enc a = enc b → a = b)
    (hmk : ∀ {es kvs h p}, h.DictAt knd p kvs es.length → KR enc φ h es kvs → OR φ h (mk es) p) {es : List (κ × V)} {kvs : List (κ' × Value)} {p : Addr} {j : Nat} {k : κ} (I : SR σ φ s) (ka : φ[j]? = some p)
    (hd : s.heap.DictAt knd p kvs es.length) (rk : KR enc φ s.heap es kvs) (hk : knd.is (enc k) y = true) (rv : VR φ s.heap v z) (hl : lenOk es.length = true) (h : PS φ s (σ.set j (mk (putK es k v))) (Q ())) :
    wpAny (model prog w) A (setItem (.ref p) y z) Q E s := by
  refine setItem_at hk hd (fun h' hd' hs' => ?_) (by rw [← rk.length]; exact len_line hl)
  obtain ⟨o, _, _, e, _⟩ := DictAt_cls hd'
  have g : Go (· = p) s ⟨h', s.gens, s.drawn, s.toks + 1, s.os⟩ := go_same hs' ⟨o, e⟩
  have im := I.immP ka g
  rw [KR.any hi rk, ← putK_len] at hd'
  exact h _ (I.put ka g I.bare (hmk hd' (KR.put hi (rv.mono (.refl φ) im) (KR.mono (.refl φ) im rk) k))) (.put ka g)
theorem storeV_snd {Q : Unit → Shared → Prop} (e : storeV σ a i v = some σ') (I : SR σ φ s) (ra : VR φ s.heap a x) (ri : VR φ s.heap i y) (rv : VR φ s.heap v z)
    (h : PS φ s σ' (Q ())) : wpAny (model prog w) A (setItem x y z) Q E s := by
  refine ref1_case ra e fun k p ka e => ?_
  cases ri with
  | int i t =>
    rcases atLI_inv e with ⟨l, el, e⟩ | ⟨l, el, e⟩
    · obtain ⟨xs, n, hx, rx⟩ := I.list el ka
      have hi := ite_c e
      have hlen := rx.length
      refine ki_setAt (n := n) hx hi.1 (by omega) (by rw [List.size_toArray]; omega) ?_
      have hu : (s.heap.update p (Obj.mapSeq fun x => Array.setIfInBounds x (Int.toNat i) z)).get? p = some { cls := .type "list", data := .seq (xs.set i.toNat z).toArray n } := by
        rw [Heap.get?_update_self _ hx rfl]
        simp [Obj.mapSeq]
      have g : Go (· = p) s ⟨s.heap.update p (Obj.mapSeq fun x => Array.setIfInBounds x (Int.toNat i) z), s.gens, s.drawn, s.toks, s.os⟩ := go_same (Heap.SameBut.update ..) ⟨_, hu⟩
      have im := I.immP ka g
      exact h.of (ite_v e) _ (I.put ka g I.bare ⟨_, n, hu, All2.set (rv.mono (.refl φ) im) (VRs.mono (.refl φ) im rx) _⟩) (.put ka g)
    · obtain ⟨kvs, hd, rk⟩ := I.obj el ka
      exact put_dict (mk := .dI) (fun _ _ e => e) (fun d r => ⟨_, d, r⟩) I ka hd rk isIntKind rv (ite_c e) (h.of (ite_v e))
  | str i t => exact atS_case I ka e fun _ _ _ hd rk e => put_dict (mk := .dS) (fun _ _ => S_inj) (fun d r => ⟨_, d, r⟩) I ka hd rk isStrKind rv (ite_c e) (h.of (ite_v e))
  | _ => cases e
theorem sidx_nn {i : Int} {n : Nat} (h0 : 0 ≤ i) (h1 : i < n) : seqIndex? i n = some i.toNat := by
  have h2 : ¬ i < 0 := by omega
  simp [seqIndex?, h2, h0, h1]
theorem sidx_neg {i : Int} {n : Nat} (h0 : i < 0) (h1 : -(n : Int) ≤ i) : seqIndex? i n = some (i + n).toNat := by
  have h2 : 0 ≤ i + n := by omega
  have h3 : i + n < n := by omega
  simp [seqIndex?, h0, h2, h3]
theorem chr_at {x : List Nat} {i : Int} {j : Nat} {t tk : Tok} (hb : (decide (i.natAbs ≤ 1000000) && decide (x.length ≤ 100000)) = true) (hj : seqIndex? i x.length = some j) (e : (x[j]?.map fun c => V.str [c]) = some v) (I : SR σ φ s) (h : PV φ s v σ Q) :
    wpAny (model prog w) A (getItem (.str (S x) t) (.int i tk)) Q E s := by
  obtain ⟨c, q, e⟩ := map_inv e
  rw [Bool.and_eq_true, decide_eq_true_eq] at hb
  exact getItem_str (c := c) (Bool.or_eq_false_iff.mpr ⟨decide_eq_false (by omega), decide_eq_false (by omega)⟩) (by rw [S_len, hj]; exact List.getElem?_toArray.trans q) ((h.ofv (congrArg some e)).str I _ _)
noncomputable def Sub (s : Shared) (x : Value) : Prop := ∃ T id, s.TypeIs x T ∧ typeLookup (.type T) "__getitem__" = pure (some (.builtin id))
theorem getItem_snd (e : idxV σ a i = some v) (I : SR σ φ s) (ra : VR φ s.heap a x) (ri : VR φ s.heap i y) (h : PV φ s v σ Q) :
    wpAny (model prog w) A (getItem x y) Q E s ∧ Sub s x := by
  refine int1_case (M := fun y => wpAny _ A (getItem x y) Q E s ∧ Sub s x) ri e fun i tk e => ?_
  cases ra with
  | str x t =>
    refine ⟨?_, "str", _, rfl, PySem.F.slot_str_getitem.lookup⟩
    have hb := ite_c e
    have e := ite_v e
    have hl : x.length ≤ 100000 := of_decide_eq_true (Bool.and_eq_true_iff.mp hb).2
    by_cases h0 : 0 ≤ i
    · rw [if_pos h0] at e
      obtain ⟨c, q, _⟩ := map_inv e
      exact chr_at hb (sidx_nn h0 (by have := lt_of_get q; omega)) e I h
    · rw [if_neg h0] at e
      exact chr_at hb (sidx_neg (by omega) (ite_c e)) (ite_v e) I h
  | tupI ht l q =>
    refine ⟨?_, "tuple", _, ⟨_, ht, rfl⟩, PySem.F.slot_tuple_getitem.lookup⟩
    obtain ⟨x, ex, rx⟩ := All2.get (.of_get l q) (ite_v e)
    have hb := ite_c e
    have hlt := lt_of_get ex
    exact PyProof.Rows.getItem_tuple (j := i.toNat) ⟨_, ht, rfl, _, rfl⟩ (by omega) (by omega) (sidx_nn hb.1 (by rw [List.size_toArray]; omega)) (List.getElem?_toArray.trans ex) (h.same I rx)
  | ref ka =>
    rcases atLI_inv e with ⟨l, el, e⟩ | ⟨l, el, e⟩
    · obtain ⟨xs, n, hx, rx⟩ := I.list el ka
      obtain ⟨x, ex, rx⟩ := rx.get (ite_v e)
      have hb := ite_c e
      exact ⟨wpAny_getItem_list ⟨_, hx, rfl, _, rfl⟩ hb.1 (by omega) (List.getElem?_toArray.trans ex) (h.same I rx), "list", _, ⟨_, hx, rfl⟩, slot_list_getitem.lookup⟩
    · obtain ⟨kvs, hd, rk⟩ := I.obj el ka
      rcases valueAt_kr (fun _ _ e => e) rk i with ⟨h1, _⟩ | ⟨v', x, h1, h2, h3⟩
      · exact none_some h1 e
      · exact ⟨wpAny_getItem_of (knd := intKind prog w) (k := i) isIntKind hd.dictOf.mapOf h2 ((h.ofv (h1.symm.trans e)).toks I _ h3), "dict", _, hd.dictOf.typeIs, slot_dict_getitem.lookup⟩
  | _ => cases e
theorem idxV_snd {value slice : PySem.Expr} (e : idxV σ a i = some v) (I : SR σ φ s) (ra : VR φ s.heap a x) (ri : VR φ s.heap i y)
    (hs : subscripted slice false x y = operate [x, y] (getItem x y)) (h : PV φ s v σ Q) : wpAny (model prog w) A (subscriptTail value slice x y) Q E s := by
  obtain ⟨h1, T, id, h2, h3⟩ := getItem_snd (A := A) (E := E) e I ra ri h
  exact tail_any h2 h3 h1 hs
end
end
section
set_option maxHeartbeats 2000000
set_option backward.match.sparseCases false
open PySem PySem.W PyProof.Rows PySem.Calls
theorem cut_eq {α : Type} (l : List α) (a b : Nat) : cut l a b = (l.drop a).take (b - a) := by
  unfold cut; rw [List.drop_take]
noncomputable def loOf (n : Nat) : Option Int → Nat
  | none => 0
  | some i => bnd n i
noncomputable def hiOf (n : Nat) : Option Int → Nat
  | none => n
  | some i => bnd n i
theorem clip_bnd (n : Nat) (i : Int) : max 0 (min (if i < 0 then i + (n : Int) else i) n) = ((bnd n i : Nat) : Int) := by
  unfold bnd
  split <;> omega
theorem idx_eq (lo hi : Option Int) (n : Nat) : Builtin.Str.strSliceIndices lo hi 1 n = (List.range (hiOf n hi - loOf n lo)).map (fun x => loOf n lo + x) := by
  rw [← sliceRange_one]
  unfold Builtin.Str.strSliceIndices
  have h1 : (1 : Int) > 0 := by decide
  simp only [h1, if_true]
  congr 1
  · cases lo with
    | none => rfl
    | some i => exact clip_bnd n i
  · cases hi with
    | none => rfl
    | some i => exact clip_bnd n i
theorem cut_all {α : Type} {l : List α} {a b : Nat} (hb : b ≤ l.length) (h : b - a = l.length) : cut l a b = l := by
  rw [cut_eq, h]
  rcases Nat.eq_zero_or_pos l.length with q | q
  · rw [List.eq_nil_of_length_eq_zero q, List.drop_nil]; rfl
  · obtain rfl : a = 0 := by omega
    exact List.take_of_length_le (Nat.le_refl _)
theorem hiOf_le (n : Nat) (o : Option Int) : hiOf n o ≤ n := by
  cases o with
  | none => exact Nat.le_refl _
  | some i => show bnd n i ≤ n; unfold bnd; split <;> omega
theorem bounds_eq (lo hi : Option Int) (n : Nat) : sliceBounds lo hi none n = (((loOf n lo : Nat) : Int), ((hiOf n hi : Nat) : Int), 1) := by
  have h1 : (1 : Int) > 0 := by decide
  unfold sliceBounds
  simp only [Option.getD_none, h1, if_true]
  refine Prod.ext ?_ (Prod.ext ?_ rfl)
  · cases lo with
    | none => rfl
    | some i => exact clip_bnd n i
  · cases hi with
    | none => rfl
    | some i => exact clip_bnd n i
theorem pick_eq (xs : List Value) (lo hi : Option Int) : slicePick xs.toArray lo hi none = (cut xs (loOf xs.length lo) (hiOf xs.length hi)).toArray := by
  rw [kmk_pick_nat xs.toArray (bounds_eq lo hi xs.toArray.size), cut_eq]
  simp
inductive LP : Option V → Option (Int × Tok) → Prop
  | none : LP none none
  | no : LP (some .none) none
  | int (i : Int) (t : Tok) : LP (some (.int i)) (some (i, t))
section
variable {σ σ' : St} {φ : List Addr} {A : Around} {E : Value → Shared → Prop} {s : Shared} {Q : Value → Shared → Prop} {o : Option V} {p : Option (Int × Tok)} {n m : Nat} {a v : V} {x : Value}
theorem LP.part (r : LP o p) : IsPart (partValue p) (p.map (·.1)) := by
  cases r with
  | int i t => exact .int i t
  | _ => exact .none
theorem LP.of {h : Heap} {d : Nat} (r : VR φ h v x) (e : bndV n (some v) d = some m) : ∃ p, x = partValue p ∧ LP (some v) p := by
  cases r with
  | none => exact ⟨.none, rfl, .no⟩
  | int i t => exact ⟨.some (i, t), rfl, .int i t⟩
  | _ => cases e
theorem LP.lo (r : LP o p) (h : bndV n o 0 = some m) : m = loOf n (p.map (·.1)) := by
  cases r with
  | int i t => exact (Option.some.inj (ite_v h)).symm
  | _ => exact (Option.some.inj h).symm
theorem LP.hi (r : LP o p) (h : bndV n o n = some m) : m = hiOf n (p.map (·.1)) := by
  cases r with
  | int i t => exact (Option.some.inj (ite_v h)).symm
  | _ => exact (Option.some.inj h).symm
theorem slice1_inv {α : Type} {lo hi : Option V} {f : Nat → Nat → α} {r : α} (e : slice1 n lo hi f = some r) : ∃ l u, bndV n lo 0 = some l ∧ bndV n hi n = some u ∧ lenOk n = true ∧ f l u = r := by
  have h0 := ite_c e
  have e := ite_v e
  cases q1 : bndV n lo 0 with
  | none => rw [q1] at e; cases e
  | some l =>
    cases q2 : bndV n hi n with
    | none => rw [q1, q2] at e; cases e
    | some u => rw [q1, q2] at e; exact ⟨l, u, rfl, rfl, h0, Option.some.inj e⟩
theorem slice1_lp {α : Type} {lo hi : Option V} {pl pu : Option (Int × Tok)} {f : Nat → Nat → α} {r : α} (rl : LP lo pl) (ru : LP hi pu) (e : slice1 n lo hi f = some r) : lenOk n = true ∧ f (loOf n (pl.map (·.1))) (hiOf n (pu.map (·.1))) = r := by
  obtain ⟨l, u, h1, h2, h3, e⟩ := slice1_inv e
  rw [rl.lo h1, ru.hi h2] at e
  exact ⟨h3, e⟩
theorem sliceV_parts {lo hi : Option V} {r : V × St} (e : sliceV σ a lo hi = some r) : ∃ n l u, bndV n lo 0 = some l ∧ bndV n hi n = some u := by
  cases a with
  | str s => obtain ⟨l, u, h1, h2, _⟩ := slice1_inv e; exact ⟨_, l, u, h1, h2⟩
  | ref k => obtain ⟨_, _, e⟩ := atL_inv e; obtain ⟨l, u, h1, h2, _⟩ := slice1_inv e; exact ⟨_, l, u, h1, h2⟩
  | _ => cases e
theorem sliceR_parts {ro : Nat → Option (List Int)} {y : V} {r : V × St} (e : sliceR ro σ a y = some r) : ∃ n u, bndV n (some y) n = some u := by
  cases a with
  | adr l =>
    have e : (match ro l with
      | some ns => slice1 ns.length none (some y) fun _ k => (V.ref σ.length, σ ++ [.list ((cut ns 0 k).map .int)])
      | none => none) = some r := e
    cases q : ro l with
    | none => rw [q] at e; cases e
    | some ns => rw [q] at e; obtain ⟨_, u, _, h, _⟩ := slice1_inv e; exact ⟨_, u, h⟩
  | str x => obtain ⟨n, _, u, _, h⟩ := sliceV_parts (show sliceV σ (.str x) none (some y) = some r from e); exact ⟨n, u, h⟩
  | ref k => obtain ⟨n, _, u, _, h⟩ := sliceV_parts (show sliceV σ (.ref k) none (some y) = some r from e); exact ⟨n, u, h⟩
  | _ => cases e
noncomputable abbrev slS (s : Shared) (pl pu : Option (Int × Tok)) : Shared := ⟨s.heap.push { cls := .type "slice", data := .fields #[partValue pl, partValue pu, .none] }, s.gens, s.drawn, s.toks, s.os⟩
theorem slice_list {pl pu : Option (Int × Tok)} {value slice : PySem.Expr} {p : Addr} {vs : List V} {xs : List Value} {n : Nat} (I : SR σ φ s) (hx : s.heap.get? p = some { cls := .type "list", data := .seq xs.toArray n }) (rx : VRs φ s.heap vs xs) (hl : lenOk vs.length = true) {lo hi : Option V} (rl : LP lo pl) (ru : LP hi pu)
    (hs : ∀ i, subscripted slice false (.ref p) i = operate [i, .ref p] (getItem (.ref p) i)) (h : PV φ s (.ref σ.length) (σ ++ [.list (cut vs (loOf vs.length (pl.map (·.1))) (hiOf vs.length (pu.map (·.1))))]) Q) :
    wpAny (model prog w) A (subscriptTail value slice (.ref p) (.ref s.heap.objs.size)) Q E (slS s pl pu) := by
  have hx' : (slS s pl pu).heap.get? p = some { cls := .type "list", data := .seq xs.toArray n } := Heap.get?_push_of_some _ hx
  refine tail_any (T := "list") ⟨_, hx', rfl⟩ slot_list_getitem.lookup ?_ (hs _)
  refine wpAny_getItem_list_slice (vs := .none) ⟨_, hx', rfl, _, rfl⟩ (.new _ _ _ _) rl.part ru.part .none (by simp) ?_ (by rw [List.size_toArray, ← rx.length]; exact len_line hl)
  rw [pick_eq, ← rx.length]
  exact h.list2 I _ (All2.drop (All2.take rx _) _)
theorem sliceV_snd {lo hi : Option V} {pl pu : Option (Int × Tok)} {value slice : PySem.Expr} (e : sliceV σ a lo hi = some (v, σ')) (I : SR σ φ s) (ra : VR φ s.heap a x) (rl : LP lo pl) (ru : LP hi pu)
    (hs : ∀ i, subscripted slice false x i = operate [i, x] (getItem x i)) (h : PV φ s v σ' Q) :
    wpAny (model prog w) A (subscriptTail value slice x (.ref s.heap.objs.size)) Q E (slS s pl pu) := by
  cases ra with
  | str x t =>
    obtain ⟨hlen, e⟩ := slice1_lp rl ru e
    have h := h.of (congrArg some e)
    have g := nw_push s { cls := .type "slice", data := .fields #[partValue pl, partValue pu, .none] } s.toks s.drawn
    refine tail_any (T := "str") rfl PySem.F.slot_str_getitem.lookup ?_ (hs _)
    refine wpAny_getItem_str_slice (l := pl) (u := pu) (st := none) ⟨_, Heap.get?_push_size _ rfl, rfl, rfl⟩ rfl ?_
    unfold sliceMade
    rw [show slicePicked (S x) pl pu none = Builtin.Str.strSliceIndices (pl.map (·.1)) (pu.map (·.1)) 1 x.length from rfl, idx_eq]
    split
    · rename_i hc
      rw [S_len] at hc
      simp only [Option.map_none, Option.getD_none, beq_self_eq_true, Bool.true_and, beq_iff_eq, List.length_map, List.length_range] at hc
      rw [cut_all (hiOf_le _ _) hc] at h
      exact h.nw I g I.bare (.str x t)
    · rw [show (S x).cps = x.toArray from rfl, pick_run, ← cut_eq]
      refine ⟨?_, h.nw I (nw_push s _ _ _) I.bare (.str _ _)⟩
      refine Nat.le_trans ?_ (len_line hlen)
      show (cut x _ _).length ≤ _
      rw [cut_eq, List.length_take, List.length_drop]
      omega
  | ref ka =>
    refine atL_case I ka e fun _ _ _ _ hx rx e => ?_
    obtain ⟨hlen, e⟩ := slice1_lp rl ru e
    exact slice_list I hx rx hlen rl ru hs (h.of (congrArg some e))
  | _ => cases e
theorem ints_VRs {h : Heap} {xs : List Value} {ns : List Int} (r : IntsAre xs ns) : VRs φ h (ns.map .int) xs := by
  induction r with
  | nil => exact .nil
  | cons n t _ ih => exact .cons (.int n t) ih
noncomputable def RO (ro : Nat → Option (List Int)) : Prop := ∀ (a : Nat) (ns : List Int), ro a = some ns → ∃ xs n, hb.get? a = some { cls := .type "list", data := .seq xs.toArray n } ∧ IntsAre xs ns
theorem sliceR_snd {ro : Nat → Option (List Int)} {y : V} {pu : Option (Int × Tok)} {value slice : PySem.Expr} (e : sliceR ro σ a y = some (v, σ')) (I : SR σ φ s) (ra : VR φ s.heap a x) (ru : LP (some y) pu) (hro : RO ro)
    (hs : ∀ i, subscripted slice false x i = operate [i, x] (getItem x i)) (h : PV φ s v σ' Q) :
    wpAny (model prog w) A (subscriptTail value slice x (.ref s.heap.objs.size)) Q E (slS s none pu) := by
  cases ra with
  | adr =>
    have e : (match ro scrA with
      | some ns => slice1 ns.length none (some y) fun _ k => (V.ref σ.length, σ ++ [.list ((cut ns 0 k).map .int)])
      | none => none) = some (v, σ') := e
    cases q : ro scrA with
    | none => rw [q] at e; cases e
    | some ns =>
      rw [q] at e
      obtain ⟨hlen, e⟩ := slice1_lp .none ru e
      obtain ⟨xs, n, hx, ri⟩ := hro scrA ns q
      have hl : (ns.map V.int).length = ns.length := List.length_map ..
      refine slice_list (pl := none) I (I.keep _ _ hx) (ints_VRs ri) (by rw [hl]; exact hlen) .none ru hs (h.of ?_)
      rw [← e, hl]
      show some (_, σ ++ [O.list (((ns.map V.int).take _).drop 0)]) = some (_, σ ++ [O.list (((ns.take _).drop 0).map V.int)])
      rw [List.drop_zero, List.drop_zero, List.map_take]
  | str x t => exact sliceV_snd (pl := none) (show sliceV σ (.str x) none (some y) = some (v, σ') from e) I (.str x t) .none ru hs h
  | ref ka => exact sliceV_snd (pl := none) (show sliceV σ (.ref _) none (some y) = some (v, σ') from e) I (.ref ka) .none ru hs h
  | _ => cases e
end
end
section
set_option maxHeartbeats 2000000
set_option backward.match.sparseCases false
open PySem PySem.W PyProof.Rows PySem.Calls
section
variable {A : Around} {R : Result → Shared → Prop} {I : Addr} {fp wr : List Addr} {n : Nat} {P : Nat → Value → Prop} {St : Nat → Heap → Prop}
noncomputable def CmpSt (A : Around) (op : CmpOp) (P : Nat → Value → Prop) (St : Nat → Heap → Prop) (bt : Nat → Nat → Bool) : Prop :=
  ∀ k i j vi vj (s : Shared) (Q : Value → Shared → Prop) (E : Value → Shared → Prop), St k s.heap → P i vi → P j vj → Q (.bool (bt i j)) s → wpAny (model prog w) A (richCompare op vi vj) Q E s
theorem min_loopSt (W : Walks prog w A.in1 I fp wr n P St) (bt : Nat → Nat → Bool) (hcmp : CmpSt A.in1 .Lt P St bt) (S : Addr) (hSf : S ∉ fp) :
    ∀ (k j : Nat) (s : Shared) (vb : Value) (c : Nat), n - (j + 1) = k → j + 1 ≤ n → St (j + 1) s.heap → P (argBest bt j) vb →
    s.heap.get? S = some { cls := .type "list", dict := none, data := .seq #[vb, vb] c, slots := #[] } →
    (∀ v h' tk, P (argBest bt (n - 1)) v → (∀ b o, b ∉ wr → b ≠ S → s.heap.get? b = some o → h'.get? b = some o) → R (.ok (.ret v)) { s with heap := h', toks := tk }) →
    codeAny (model prog w) A (.builtin "min.loop" ⟨[.ref I, .none, .ref S], []⟩) R s := by
  have hSw : S ∉ wr := fun h => hSf (W.sub _ h)
  have hname : (toString "min" ++ toString ".loop" : String) = "min.loop" := by decide
  intro k
  induction k with
  | zero =>
    intro j s vb c hk hj hst hPb hS hR
    have hin : j + 1 = n := by omega
    refine codeAny_builtin F.entry_min_loop ?_
    rw [Around.under_plainId F.plain_min_loop _]
    show wpAny _ A.in1 (seqItems? (.ref S) >>= _) _ _ s
    refine wpAny_bind (wpAny_seqItems hS rfl ?_)
    show wpAny _ A.in1 (tryCatch (pyNext (.ref I)) _ >>= _) _ _ s
    refine wpAny_bind (wpAny_tryCatch (W.done s _ _ (hin ▸ hst) fun h' tk hk' => ?_))
    have hS' := hk' S _ hSw hS
    show wpAny _ A.in1 (updateSeq S (fun _ => #[]) >>= _) _ _ _
    refine wpAny_bind ?_
    refine wpAny_updateSeq hS' rfl (wpAny_bind (wpAny_letGo (wpAny_pure ?_)))
    refine hR vb _ tk (by rw [← hin]; exact hPb) fun b o hbw hbS e => (Heap.get?_update_other _ _ (Ne.symm hbS)).trans (hk' b o hbw e)
  | succ k ih =>
    intro j s vb c hk hj hst hPb hS hR
    have hlt : j + 1 < n := by omega
    refine codeAny_builtin F.entry_min_loop ?_
    rw [Around.under_plainId F.plain_min_loop _]
    show wpAny _ A.in1 (seqItems? (.ref S) >>= _) _ _ s
    refine wpAny_bind (wpAny_seqItems hS rfl ?_)
    show wpAny _ A.in1 (tryCatch (pyNext (.ref I)) _ >>= _) _ _ s
    refine wpAny_bind (wpAny_tryCatch (W.item (j + 1) s _ _ hlt hst fun v h' tk hP hst' hk' => ?_))
    have hS' := hk' S _ hSw hS
    show wpAny _ A.in1 (tryCatch (holding [v, v] (richCompare .Lt v vb >>= _)) _ >>= _) _ _ _
    refine wpAny_bind (wpAny_tryCatch (wpAny_holding (wpAny_bind (hcmp (j + 2) (j + 1) (argBest bt j) v vb _ _ _ hst' hP hPb ?_))))
    refine wpAny_bind (wpAny_holding (wpAny_truthy_bool ?_))
    refine wpAny_bind (wpAny_letGo (wpAny_pure ?_))
    cases hb : bt (j + 1) (argBest bt j) with
    | true =>
      simp only [if_true]
      refine wpAny_bind ?_
      refine wpAny_updateSeq hS' rfl (wpAny_bind (wpAny_letGo ?_))
      rw [hname]
      refine wpAny_pure ⟨plainId_quiet F.plain_min_loop _, ih (j + 1) _ v _ (by omega) hlt (W.frame _ _ _ hst' fun b hbf o e => ?_) (by simp only [argBest, hb, if_true]; exact hP) (Heap.get?_update_self _ hS' rfl)
        fun v' h'' tk'' hP' hk'' => ?_⟩
      · exact (Heap.get?_update_other _ _ (fun h : S = b => hSf (by rw [h]; exact hbf))).trans e
      · exact hR v' h'' tk'' hP' fun b o hbw hbS e => hk'' b o hbw hbS ((Heap.get?_update_other _ _ (Ne.symm hbS)).trans (hk' b o hbw e))
    | false =>
      simp only [Bool.false_eq_true, if_false]
      refine wpAny_bind (wpAny_letGo ?_)
      rw [hname]
      refine wpAny_pure ⟨plainId_quiet F.plain_min_loop _, ih (j + 1) _ vb c (by omega) hlt hst' (by simp only [argBest, hb, Bool.false_eq_true, if_false]; exact hPb) hS' fun v' h'' tk'' hP' hk'' => ?_⟩
      exact hR v' h'' tk'' hP' fun b o hbw hbS e => hk'' b o hbw hbS (hk' b o hbw e)
theorem min_loop_firstSt (W : Walks prog w A.in1 I fp wr n P St) (bt : Nat → Nat → Bool) (hcmp : CmpSt A.in1 .Lt P St bt) (S : Addr) (hSf : S ∉ fp) (hn : 0 < n) {s : Shared} {c : Nat} (hst : St 0 s.heap)
    (hS : s.heap.get? S = some { cls := .type "list", dict := none, data := .seq #[] c, slots := #[] })
    (hR : ∀ v h' tk, P (argBest bt (n - 1)) v → (∀ b o, b ∉ wr → b ≠ S → s.heap.get? b = some o → h'.get? b = some o) → R (.ok (.ret v)) { s with heap := h', toks := tk }) :
    codeAny (model prog w) A (.builtin "min.loop" ⟨[.ref I, .none, .ref S], []⟩) R s := by
  have hSw : S ∉ wr := fun h => hSf (W.sub _ h)
  have hname : (toString "min" ++ toString ".loop" : String) = "min.loop" := by decide
  refine codeAny_builtin F.entry_min_loop ?_
  rw [Around.under_plainId F.plain_min_loop _]
  show wpAny _ A.in1 (seqItems? (.ref S) >>= _) _ _ s
  refine wpAny_bind (wpAny_seqItems hS rfl ?_)
  show wpAny _ A.in1 (tryCatch (pyNext (.ref I)) _ >>= _) _ _ s
  refine wpAny_bind (wpAny_tryCatch (W.item 0 s _ _ hn hst fun v h' tk hP hst' hk' => ?_))
  have hS' := hk' S _ hSw hS
  show wpAny _ A.in1 (updateSeq S (fun _ => #[v, v]) >>= _) _ _ _
  refine wpAny_bind ?_
  refine wpAny_updateSeq hS' rfl ?_
  rw [hname]
  refine wpAny_pure ⟨plainId_quiet F.plain_min_loop _, min_loopSt W bt hcmp S hSf _ 0 _ v _ rfl hn (W.frame _ _ _ hst' fun b hbf o e => ?_) hP (Heap.get?_update_self _ hS' rfl) fun v' h'' tk'' hP' hk'' => ?_⟩
  · exact (Heap.get?_update_other _ _ (fun h : S = b => hSf (by rw [h]; exact hbf))).trans e
  · exact hR v' h'' tk'' hP' fun b o hbw hbS e => hk'' b o hbw hbS ((Heap.get?_update_other _ _ (Ne.symm hbS)).trans (hk' b o hbw e))
end
section
variable {A : Around} {E : Value → Shared → Prop} {s : Shared}
theorem call_min_St {x : Value} {Q : Value → Shared → Prop}
    (h : wpAny (model prog w) A.in1 (pyIter x) (fun it s₂ => ∃ I fp wr n P St bt, it = .ref I ∧ Walks prog w A.in1 I fp wr n P St ∧ St 0 s₂.heap ∧ (∀ b ∈ fp, b < s₂.heap.objs.size) ∧ 0 < n ∧ CmpSt A.in1 .Lt P St bt ∧
      ∀ v h' tk, P (argBest bt (n - 1)) v → (∀ b o, b ∉ wr → s₂.heap.get? b = some o → h'.get? b = some o) → Q v { s₂ with heap := h', toks := tk }) E s) :
    wpAny (model prog w) A (call (.builtin "min") [x]) Q E s := by
  have hname : (toString "min" ++ toString ".loop" : String) = "min.loop" := by decide
  refine call_function_tree F.kind_min F.plain_min F.entry_min (F.args_min1 _) ?_
  show wpAny _ A.in1 (Builtin.Builtins.bindParams "min" ["key", "default"] 0 ⟨[], []⟩ >>= _) _ _ s
  refine wpAny_bind (wpAny_of_eq (show Builtin.Builtins.bindParams "min" ["key", "default"] 0 ⟨[], []⟩ = pure [none, none] from rfl) ?_)
  refine wpAny_bind (wpAny_pure ?_)
  refine wpAny_bind (wpAny_mono h (fun it s₂ h₂ => ?_) fun _ _ e => e)
  obtain ⟨I, fp, wr, n, P, St, bt, rfl, W, hst, hfp, hn, hcmp, hQ⟩ := h₂
  refine wpAny_bind (wpAny_newObj_type ?_)
  have hSf : s₂.heap.objs.size ∉ fp := fun hm => Nat.lt_irrefl _ (hfp _ hm)
  rw [hname]
  refine wpAny_pure ⟨plainId_quiet F.plain_min_loop _, min_loop_firstSt W bt hcmp s₂.heap.objs.size hSf hn (W.frame _ _ _ hst fun b _ o e => Heap.get?_push_of_some _ e) (Heap.get?_push_size _ rfl) fun v h' tk hP hk => ?_⟩
  exact hQ v h' tk hP fun b o hbw e => hk b o hbw (Nat.ne_of_lt (Heap.lt_size e)) (Heap.get?_push_of_some _ e)
theorem eqBool_is {prog : Program} {w : World} {a b : Int} {t u : Tok} {r : Bool} {Q : Bool → Shared → Prop} (e : (a == b) = r) (h : Q r s) : wpAny (model prog w) A (eqBool (.int a t) (.int b u)) Q E s := wpAny_eqBool_int (e ▸ h)
theorem rcLt_is {prog : Program} {w : World} {a b : Int} {t u : Tok} {Q : Value → Shared → Prop} (h : Q (.bool (decide (a < b))) s) : wpAny (model prog w) A (richCompare .Lt (.int a t) (.int b u)) Q E s :=
  richCompare_gives (op := .Lt) (typeIs_int s _ t) (typeIs_int s _ u) F.slot_int_lt F.entry_int_lt (F.args_int_lt_2 _ _) (gives_int_lt _ _ t u) (fun x => nomatch x) h
theorem tuple_lt3 (l b : Addr) (a1 a2 a3 b1 b2 b3 : Int) (t1 t2 t3 u1 u2 u3 : Tok) :
    Meets (Builtin.«tuple.__lt__» ⟨[.ref l, .ref b], []⟩)
      (fun _ R s => s.heap.get? l = some { cls := .type "tuple", data := .seq #[.int a1 t1, .int a2 t2, .int a3 t3] } ∧ s.heap.get? b = some { cls := .type "tuple", data := .seq #[.int b1 u1, .int b2 u2, .int b3 u3] } ∧
        R (.ok (.ret (.bool (ltT (a1, a2, a3) (b1, b2, b3))))) s) :=
  .of_wp fun prog w A R s h => by
    obtain ⟨hp, g, d, tk, os⟩ := s; obtain ⟨hl, hb, h⟩ := h
    have f2 := AutoSeq1.sub_tuple_tuple
    generalize e1 : (a1 == b1) = r1
    generalize e2 : (a2 == b2) = r2
    generalize e3 : (a3 == b3) = r3
    have hlt : ltT (a1, a2, a3) (b1, b2, b3) = if r1 then (if r2 then (if r3 then false else decide (a3 < b3)) else decide (a2 < b2)) else decide (a1 < b1) := by
      subst e1 e2 e3
      simp only [ltT, beq_iff_eq]
      by_cases h1 : a1 = b1
      · by_cases h2 : a2 = b2
        · by_cases h3 : a3 = b3 <;> simp [h1, h2, h3]
        · simp [h1, h2]
      · simp [h1]
    rw [hlt] at h
    cases r1
    · wp_walk using PySem.wpAny_loadPart' hl, PySem.wpAny_loadPart' hb, eqBool_is e1, rcLt_is
      exact ⟨_, rfl, h⟩
    · cases r2
      · wp_walk using PySem.wpAny_loadPart' hl, PySem.wpAny_loadPart' hb, eqBool_is e1, eqBool_is e2, rcLt_is
        exact ⟨_, rfl, h⟩
      · cases r3
        · wp_walk using PySem.wpAny_loadPart' hl, PySem.wpAny_loadPart' hb, eqBool_is e1, eqBool_is e2, eqBool_is e3, rcLt_is
          exact ⟨_, rfl, h⟩
        · wp_walk using PySem.wpAny_loadPart' hl, PySem.wpAny_loadPart' hb, eqBool_is e1, eqBool_is e2, eqBool_is e3, rcLt_is
          exact ⟨_, rfl, h⟩
end
end
section
set_option maxHeartbeats 2000000
set_option backward.match.sparseCases false
open PySem PySem.W PyProof.Rows PySem.Calls
noncomputable def biName : BI → Str
  | .len => "len" | .range => "range" | .list => "list" | .min2 => "min" | .minL => "min" | .iter => "iter" | .next => "next" | .ord => "ord" | .chr => "chr" | .hex => "hex"
noncomputable def miName : MI → Str
  | .append => "append" | .join => "join" | .lower => "lower" | .get => "get"
noncomputable def biVal : BI → Value
  | .range => .type "range" | .list => .type "list"
  | .len => .builtin "len" | .min2 => .builtin "min" | .minL => .builtin "min" | .iter => .builtin "iter" | .next => .builtin "next"
  | .ord => .builtin "ord" | .chr => .builtin "chr" | .hex => .builtin "hex"
noncomputable def miT : MI → String
  | .append => "list" | .get => "dict" | _ => "str"
noncomputable def miId : MI → String
  | .append => "list.append" | .get => "dict.get" | .join => "str.join" | .lower => "str.lower"
section
variable {σ σ' : St} {φ : List Addr} {A : Around} {E : Value → Shared → Prop} {s s' : Shared} {Q : Value → Shared → Prop} {v o : V} {x : Value}
theorem rngLen_size (a b c : Int) : Builtin.Range.rangeSize a b c = ((rngLen a b c : Nat) : Int) := by
  unfold Builtin.Range.rangeSize rngLen
  by_cases hc : c > 0
  · rw [if_pos hc, if_pos hc]
    by_cases h : a < b
    · rw [if_pos h, if_pos h]
      have : 0 ≤ (b - a - 1) / c := Int.ediv_nonneg (by omega) (by omega)
      omega
    · rw [if_neg h, if_neg h]; rfl
  · rw [if_neg hc, if_neg hc]
    by_cases h : b < a
    · rw [if_pos h, if_pos (show a > b from h)]
      have : 0 ≤ (a - b - 1) / (-c) := Int.ediv_nonneg (by omega) (by omega)
      omega
    · rw [if_neg h, if_neg (show ¬ a > b from h)]; rfl
theorem mul_succ (j : Nat) (c : Int) : ((j + 1 : Nat) : Int) * c = j * c + c := by rw [Int.natCast_add, Int.add_mul]; simp
theorem rngGo_get (c : Int) : ∀ (n : Nat) (a : Int) (j : Nat) (v : V), (rngGo n a c)[j]? = some v → v = .int (a + j * c) := by
  intro n
  induction n with
  | zero => exact fun _ _ _ h => nomatch h
  | succ n ih =>
    intro a j v h
    cases j with
    | zero => cases h; simp
    | succ j => rw [ih (a + c) j v h, mul_succ, Int.add_assoc, Int.add_comm c]
theorem rngGo_len (c : Int) : ∀ (n : Nat) (a : Int), (rngGo n a c).length = n := by
  intro n
  induction n with
  | zero => exact fun _ => rfl
  | succ n ih => exact fun a => congrArg Nat.succ (ih _)
theorem rngGo_VRs {h : Heap} {c : Int} {n : Nat} {a : Int} {xs : List Value} (hl : xs.length = n) (H : ∀ (j : Nat) (v : Value), xs[j]? = some v → ∃ t, v = .int (a + j * c) t) : VRs φ h (rngGo n a c) xs :=
  .of_get ((rngGo_len c n a).trans hl.symm) fun i v x e1 e2 => by
    rw [rngGo_get c n a i v e1]
    obtain ⟨t, e⟩ := H i x e2
    exact e ▸ .int _ t
theorem keys_VRs {φ' : List Addr} {h h0 : Heap} {es : List (Int × V)} {kvs : List (Int × Value)} {xs : List Value} (r : KR id φ h0 es kvs) (hl : xs.length = kvs.length) (H : ∀ (j : Nat) (v : Value), xs[j]? = some v → ∃ k x, kvs[j]? = some (k, x) ∧ (intKind prog w).is k v = true) :
    VRs φ' h (es.map fun e => .int e.1) xs :=
  .of_get ((List.length_map ..).trans (r.length.trans hl.symm)) fun i v x e1 e2 => by
    obtain ⟨k, y, e3, e4⟩ := H i x e2
    rw [List.getElem?_map] at e1
    obtain ⟨e, e5, rfl⟩ := map_inv e1
    obtain ⟨kv, e6, q, _⟩ := r.get e5
    cases e3.symm.trans e6
    obtain ⟨t, rfl⟩ := Value.isInt_shape e4
    exact (show k = e.1 from q) ▸ .int _ t
theorem hexD_eq (d : Nat) (h : d < 16) : (Nat.digitChar d).toNat = hexD d := by
  have : ∀ d : Fin 16, (Nat.digitChar d.1).toNat = hexD d.1 := by decide
  exact this ⟨d, h⟩
theorem hexGo_eq : ∀ (n f x : Nat) (ds : List Char), x < 16 ^ n → x < f → (Nat.toDigitsCore 16 f x ds).map Char.toNat = hexGo n x (ds.map Char.toNat) ∨ (n = 0)
  | 0, _, _, _, _, _ => .inr rfl
  | n + 1, f, x, ds, hx, hf => by
    left
    obtain ⟨f, rfl⟩ : ∃ g, f = g + 1 := ⟨f - 1, by omega⟩
    rw [Nat.toDigitsCore, hexGo]
    by_cases h : x < 16
    · rw [if_pos h, if_pos (by omega), List.map_cons, hexD_eq _ (Nat.mod_lt _ (by decide)), Nat.mod_eq_of_lt h]
    · rw [if_neg h, if_neg (by omega)]
      have hx' : x / 16 < 16 ^ n := by rw [Nat.pow_succ] at hx; omega
      rcases hexGo_eq n f (x / 16) (Nat.digitChar (x % 16) :: ds) hx' (by omega) with e | e
      · rw [e, List.map_cons, hexD_eq _ (Nat.mod_lt _ (by decide))]
      · subst e; simp at hx'; omega
theorem hexText {i : Int} (h0 : 0 ≤ i) (h1 : i < 2 ^ 64) : baseText "0x" 16 i = S (48 :: 120 :: hexGo 20 i.toNat []) := by
  unfold baseText
  rw [if_neg (by omega)]
  have e1 : Str.ofString (String.ofList (Nat.toDigits 16 i.natAbs)) = S (hexGo 20 i.toNat []) := by
    rw [PySem.W.Fast.ofString_ofList]
    have : i.natAbs = i.toNat := by omega
    rw [this]
    show (⟨_⟩ : Str) = ⟨_⟩
    congr 2
    rcases hexGo_eq 20 (i.toNat + 1) i.toNat [] (by omega) (by omega) with e | e
    · exact e
    · cases e
  rw [e1]
  rw [show Str.ofString "" = S [] from by decide +kernel, show Str.ofString "0x" = S [48, 120] from by decide +kernel, S_app, S_app]; rfl
theorem joinS_eq (sep : List Nat) : ∀ (l : List (List Nat)), PySem.Str.join (S sep) (l.map S) = S (joinS sep l)
  | [] => rfl
  | [x] => rfl
  | x :: y :: r => by
    show S x ++ S sep ++ PySem.Str.join (S sep) ((y :: r).map S) = S (x ++ sep ++ joinS sep (y :: r))
    rw [joinS_eq sep (y :: r), S_app, S_app]
theorem lower_one {c : Nat} (h : c < 128) : Txt.lower (S [c]) = S [lowerC c] := by
  have : ∀ c : Fin 128, Txt.lower (S [c.1]) = S [lowerC c.1] := by decide +kernel
  exact this ⟨c, h⟩
theorem minT_best (ts : List (Int × Int × Int)) (d : Int × Int × Int) : ∀ (r : List (Int × Int × Int)) (k : Nat), (∀ j, r[j]? = ts[k + 1 + j]?) → r.length + k + 1 = ts.length →
    minT (ts.getD (argBest (fun i j => ltT (ts.getD i d) (ts.getD j d)) k) d) r = ts.getD (argBest (fun i j => ltT (ts.getD i d) (ts.getD j d)) (ts.length - 1)) d
  | [], k, _, hl => by
    have : ts.length - 1 = k := by simp at hl; omega
    rw [this]; rfl
  | x :: r, k, H, hl => by
    have e0 : ts[k + 1]? = some x := by have := H 0; simpa using this.symm
    have e1 : ts.getD (k + 1) d = x := by rw [List.getD_eq_getElem?_getD, e0]; rfl
    rw [minT]
    have := minT_best ts d r (k + 1) (fun j => by have := H (j + 1); rw [List.getElem?_cons_succ] at this; rw [this]; congr 1; omega) (by simp only [List.length_cons] at hl; omega)
    rw [← this]
    congr 1
    rw [argBest, e1]
    split
    · exact e1.symm
    · rfl
theorem walks_keep {A : Around} {I : Addr} {fp wr : List Addr} {n : Nat} {P : Nat → Value → Prop} {St : Nat → Heap → Prop} (W : Walks prog w A I fp wr n P St) (h0 : Heap) (hw : ∀ b ∈ wr, h0.objs.size ≤ b) :
    Walks prog w A I (fp ++ List.range h0.objs.size) wr n P (fun i h => St i h ∧ ∀ b o, h0.get? b = some o → h.get? b = some o) where
  sub := fun b hb => List.mem_append_left _ (W.sub b hb)
  frame := fun i h h' st hk => ⟨W.frame i h h' st.1 fun b hb o e => hk b (List.mem_append_left _ hb) o e, fun b o e => hk b (List.mem_append_right _ (List.mem_range.mpr (Heap.lt_size e))) o (st.2 b o e)⟩
  item := fun i s Q E hi st hQ => W.item i s Q E hi st.1 fun v h' tk hP st' hk => hQ v h' tk hP ⟨st', fun b o e => hk b o (fun hm => absurd (Heap.lt_size e) (Nat.not_lt.mpr (hw b hm))) (st.2 b o e)⟩ hk
  done := fun s Q E st hQ => W.done s Q E st.1 hQ
  self := fun i s Q E st hQ => W.self i s Q E st.1 hQ
theorem All2.unc {α β : Type} {R : α → β → Prop} {a : α} {as : List α} {l : List β} (r : All2 R (a :: as) l) : ∃ b bs, l = b :: bs ∧ R a b ∧ All2 R as bs := by
  cases r with | cons q r => exact ⟨_, _, rfl, q, r⟩
theorem trip_at {h : Heap} {v : V} {y : Value} {t : Int × Int × Int} (r : VR φ h v y) (e : tripOf v = some t) : ∃ a, y = .ref a ∧ ∃ u1 u2 u3, h.get? a = some { cls := .type "tuple", data := .seq #[.int t.1 u1, .int t.2.1 u2, .int t.2.2 u3] } := by
  cases v with
  | tup l =>
    match l, e with
    | [a, b, c], e =>
      obtain ⟨p, xs, rfl, g, rs⟩ := r.tup'
      obtain ⟨y1, ys, rfl, r1, rs⟩ := rs.unc
      obtain ⟨y2, y3, rfl, r2, r3⟩ := VRs.two rs
      refine ⟨p, rfl, ?_⟩
      refine int2_case (M := fun y1 y2 => h.get? p = some { cls := .type "tuple", data := .seq [y1, y2, y3].toArray } → _) r1 r2 e (fun i t j u e g => ?_) g
      refine int1_case (M := fun y3 => h.get? p = some { cls := .type "tuple", data := .seq [_, _, y3].toArray } → _) r3 e (fun k u2 e g => ?_) g
      exact Option.some.inj e ▸ ⟨_, _, _, g⟩
    | [], e => cases e
    | [_], e => cases e
    | [_, _], e => cases e
    | _ :: _ :: _ :: _ :: _, e => cases e
  | _ => cases e
theorem trips_at {h : Heap} {l : List V} {xs : List Value} (r : VRs φ h l xs) : ∀ {ts : List (Int × Int × Int)}, tripsOf l = some ts →
    All2 (fun t y => ∃ a, y = .ref a ∧ ∃ u1 u2 u3, h.get? a = some { cls := .type "tuple", data := .seq #[.int t.1 u1, .int t.2.1 u2, .int t.2.2 u3] }) ts xs := by
  induction r with
  | nil => intro ts e; cases e; exact .nil
  | @cons v x vs xs q _ ih =>
    intro ts e
    have e : (match tripOf v with
      | some t => (tripsOf vs).map (t :: ·)
      | none => none) = some ts := e
    cases h1 : tripOf v with
    | none => rw [h1] at e; cases e
    | some t =>
      rw [h1] at e
      obtain ⟨ts', e1, rfl⟩ := map_inv e
      exact .cons (trip_at q h1) (ih e1)
theorem min_trips {l : Addr} {items : Array Value} {ts : List (Int × Int × Int)} (hh : A.handled = none) (hu : A.units + 100 < cLine) (hl : s.heap.IsList l items) (hn : 0 < ts.length) (hlen : items.size = ts.length)
    (hi : ∀ (i : Nat) (y : Value), items[i]? = some y → ∃ a t, ts[i]? = some t ∧ y = .ref a ∧ ∃ u1 u2 u3, s.heap.get? a = some { cls := .type "tuple", data := .seq #[.int t.1 u1, .int t.2.1 u2, .int t.2.2 u3] })
    (h : ∀ v h' tk, items[argBest (fun i j => ltT (ts.getD i (0, 0, 0)) (ts.getD j (0, 0, 0))) (ts.length - 1)]? = some v → (∀ b o, s.heap.get? b = some o → h'.get? b = some o) → Q v { s with heap := h', toks := tk }) :
    wpAny (model prog w) A (call (.builtin "min") [.ref l]) Q E s := by
  have hlt : l < s.heap.objs.size := by obtain ⟨_, e, _⟩ := hl; exact Heap.lt_size e
  refine call_min_St (wpAny_pyIter_list hl ?_)
  have hsz : (s.heap.push { cls := .type "list_iterator", data := .fields #[.ref l, .int 0 0] }).objs.size = s.heap.objs.size + 1 := Heap.size_push ..
  have W := walks_keep (Walks.list (prog := prog) (w := w) (A := A.in1) hh s.heap.objs.size l (Nat.ne_of_lt hlt) items) s.heap (fun b hb => by rw [List.mem_singleton.mp hb]; exact Nat.le_refl _)
  refine ⟨_, _, _, _, _, _, fun i j => ltT (ts.getD i (0, 0, 0)) (ts.getD j (0, 0, 0)), rfl, W, ⟨⟨⟨_, Heap.get?_push_size _ rfl, rfl, rfl⟩, hl.push _⟩, fun b o e => Heap.get?_push_of_some _ e⟩, fun b hb => ?_, by omega, ?_, fun v h' tk hP hk => ?_⟩
  · show b < (s.heap.push _).objs.size
    rw [hsz]
    rcases List.mem_append.mp hb with hb | hb
    · rcases List.mem_cons.mp hb with rfl | hb
      · exact Nat.lt_succ_self _
      · rw [List.mem_singleton.mp hb]; exact Nat.lt_succ_of_lt hlt
    · exact Nat.lt_succ_of_lt (List.mem_range.mp hb)
  · intro k i j vi vj s₁ Q₁ E₁ hst hvi hvj hq
    obtain ⟨a, t, ht, rfl, u1, u2, u3, ha⟩ := hi i vi hvi
    obtain ⟨b, t', ht', rfl, u1', u2', u3', hb⟩ := hi j vj hvj
    have ha' := hst.2 _ _ ha
    have hb' := hst.2 _ _ hb
    refine richCompare_meets_room (op := .Lt) ⟨_, ha', rfl⟩ ⟨_, hb', rfl⟩ F.slot_tuple_lt F.entry_tuple_lt (F.args_tuple_lt_2 _ _) (tuple_lt3 a b _ _ _ _ _ _ _ _ _ _ _ _) ⟨ha', hb', (fun x => nomatch x), ?_⟩ (by show A.units + 1 < cLine; omega)
    have e1 : ts.getD i (0, 0, 0) = t := by rw [List.getD_eq_getElem?_getD, ht]; rfl
    have e2 : ts.getD j (0, 0, 0) = t' := by rw [List.getD_eq_getElem?_getD, ht']; rfl
    have hq' : Q₁ (.bool (ltT (ts.getD i (0, 0, 0)) (ts.getD j (0, 0, 0)))) s₁ := hq
    rw [e1, e2] at hq'
    exact hq'
  · rw [hlen] at hP
    exact h v h' tk hP fun b o e => hk b o (fun hm => absurd (Heap.lt_size e) (by rw [List.mem_singleton.mp hm]; exact Nat.lt_irrefl _)) (Heap.get?_push_of_some _ e)
end
end
section
set_option maxHeartbeats 2000000
set_option backward.match.sparseCases false
open PySem PySem.W PyProof.Rows PySem.Calls
section
variable {σ σ' : St} {φ : List Addr} {A : Around} {E : Value → Shared → Prop} {s s' : Shared} {Q : Value → Shared → Prop} {v u o : V} {x : Value} {vs : List V} {xs : List Value}
@[elab_as_elim] theorem arg1_case {α : Type} {f : V → Option α} {r : α} {h : Heap} {M : List Value → Prop} (rs : VRs φ h vs xs) (e : arg1 vs f = some r) (k : ∀ v x, VR φ h v x → f v = some r → M [x]) : M xs := by
  cases rs with
  | nil => cases e
  | cons a rs =>
    cases rs with
    | nil => exact k _ _ a e
    | cons _ _ => cases e
theorem len_snd (hs : HS) (e : lenV u σ = some (v, σ')) (I : SR σ φ s) (r : VR φ s.heap u x) (h : PV φ s v σ' Q) : wpAny (model prog w) A (call (.builtin "len") [x]) Q E s := by
  cases r with
  | str i t => exact P.len_str (by rw [S_len]; have := len_ok (ite_c e); omega) ((h.of (ite_v e)).int I _ _)
  | ref ka =>
    rcases atLI_inv e with ⟨l, el, e⟩ | ⟨l, el, e⟩
    · obtain ⟨xs, n, hx, rx⟩ := I.list el ka
      have e0 : (xs.toArray.size : Int) = l.length := by rw [rx.length]; rfl
      refine Calls.call_len_list ⟨_, hx, rfl, _, rfl⟩ ?_ ?_
      · rw [e0]; have := len_ok (ite_c e); omega
      · rw [e0]; exact (h.of (ite_v e)).int I _ _
    · obtain ⟨kvs, hd, rk⟩ := I.obj el ka
      refine call_len_dict (I.noSys hs ka) hd.dictOf ?_ ?_
      · rw [← rk.length]; have := len_ok (ite_c e); omega
      · rw [← rk.length]; exact (h.of (ite_v e)).int I _ _
  | _ => cases e
theorem small_of {a b c : Int} (h1 : a.natAbs ≤ 100000) (h2 : b.natAbs ≤ 100000) (h3 : c.natAbs ≤ 100000) : Builtin.Range.small a b c = true := by
  have h4 : -1000000 ≤ Builtin.Range.rangeSize a b c ∧ Builtin.Range.rangeSize a b c ≤ 1000000 := by
    unfold Builtin.Range.rangeSize
    have div : ∀ x y : Int, 0 ≤ x → 0 ≤ y → 0 ≤ x / y ∧ x / y ≤ x := fun x y hx hy => ⟨Int.ediv_nonneg hx hy, Int.ediv_le_self _ hx⟩
    split
    · split
      · have := div (b - a - 1) c (by omega) (by omega)
        omega
      · omega
    · split
      · have := div (a - b - 1) (-c) (by omega) (by omega)
        omega
      · omega
  unfold Builtin.Range.small
  generalize Builtin.Range.rangeSize a b c = r at h4
  unfold Builtin.Range.rangeFitsLong
  have f : ∀ x : Int, -10000000 ≤ x → x ≤ 10000000 → (decide (-(2 ^ 63 : Int) ≤ x) && decide (x < 2 ^ 63)) = true := fun x h1 h2 => by
    rw [Bool.and_eq_true, decide_eq_true_iff, decide_eq_true_iff]; omega
  rw [f a (by omega) (by omega), f b (by omega) (by omega), f c (by omega) (by omega), f r (by omega) (by omega), f (b + (c - 1)) (by omega) (by omega), f (b + (c + 1)) (by omega) (by omega)]
  simp
theorem rng_new {a b c : Int} {t t' t'' : Tok} {tk : Nat} (h : PV φ s v σ Q) (e : rngOk a b c = some v) (I : SR σ φ s) : Q (.ref s.heap.objs.size) ⟨s.heap.push { cls := .type "range", data := .fields #[.int a t, .int b t', .int c t''] }, s.gens, s.drawn, tk, s.os⟩ :=
  (h.ofv (ite_v e)).nw I (nw_push s _ _ _) I.bare (.rng (IsRange.new ..) (small_of (ite_c e).1 (ite_c e).2.1 (ite_c e).2.2.1))
theorem range_snd (e : rangeV vs = some v) (I : SR σ φ s) (r : VRs φ s.heap vs xs) (h : PV φ s v σ Q) : wpAny (model prog w) A (call (.type "range") xs) Q E s := by
  cases r with
  | nil => cases e
  | cons r1 r =>
    cases r with
    | nil => exact int1_case (M := fun x => wpAny (model prog w) A (call (.type "range") [x]) Q E s) r1 e fun i t e => call_range_1 (rng_new h e I)
    | cons r2 r =>
      cases r with
      | nil => exact int2_case (M := fun x y => wpAny (model prog w) A (call (.type "range") [x, y]) Q E s) r1 r2 e fun i t j u e => call_range_2 (rng_new h e I)
      | cons r3 r =>
        cases r with
        | nil =>
          exact int2_case (M := fun x y => wpAny (model prog w) A (call (.type "range") [x, y, _]) Q E s) r1 r2 e fun i t j u e => int1_case (M := fun z => wpAny (model prog w) A (call (.type "range") [_, _, z]) Q E s) r3 e fun k u' e =>
            call_range_3 (ite_c e).2.2.2 (rng_new h e I) (.inl (small_div (decide_eq_true (by have := ite_c e; omega))))
        | cons _ _ => cases e
theorem list_snd (hh : A.handled = none) (hs : HS) (e : listV u σ = some (v, σ')) (I : SR σ φ s) (r : VR φ s.heap u x) (h : PV φ s v σ' Q) : wpAny (model prog w) A (call (.type "list") [x]) Q E s := by
  cases r with
  | @rng a b c _ _ _ _ hr hsm =>
    have hc := (Bool.and_eq_true_iff.mp (ite_c e)).2
    exact call_list_range hh hr hsm (rngLen_size a b c) (Nat.le_trans (len_ok hc) (by decide)) fun h' tk acc' c' hk hget hit =>
      (h.of (ite_v e)).new I (nw_keep hk) I.bare (new_addr _) ⟨acc'.toList, c', hget, rngGo_VRs hit.1 fun j v hv => hit.2 j v (Array.getElem?_toList.symm.trans hv)⟩
  | ref ka =>
    exact atI_case I ka e fun es kvs _ hd rk e => kdl_call (kdl_dict (I.noSys hs ka)) hh hd (by rw [← rk.length]; exact len_line (ite_c e)) fun h' tk acc' c' hk hget hit =>
      (h.of (ite_v e)).new I (nw_keep hk) I.bare (new_addr _) ⟨acc'.toList, c', hget, keys_VRs rk hit.1 fun j v hv => hit.2 j v (Array.getElem?_toList.symm.trans hv)⟩
  | _ => cases e
theorem hexGo_len : ∀ (n x : Nat) (acc : List Nat), (hexGo n x acc).length ≤ n + acc.length
  | 0, _, _ => by simp [hexGo]
  | n + 1, x, acc => by
    rw [hexGo]
    split
    · simp; omega
    · have := hexGo_len n (x / 16) (hexD (x % 16) :: acc)
      simp at this; omega
theorem next_special {it l : Addr} {i : Nat} {items : Array Value} {x : Value} {Q : Option Value → Shared → Prop} (hit : s.heap.IsListIter it l i) (hl : s.heap.IsList l items) (hx : items[i]? = some x)
    (hQ : ∀ h', h'.IsListIter it l (i + 1) → Heap.SameBut it s.heap h' → Q (some x) { s with heap := h' }) :
    wpAny (model prog w) A (callSpecial? (.ref it) (Str.ofString "__next__")) Q E s := by
  obtain ⟨o, ho, hc, hd⟩ := id hit
  obtain ⟨ol, hol, _, nl, hdl⟩ := hl
  refine wpAny_callSpecial?_slot (name := Str.ofString "__next__") hit.typeIs slot_listiter_next
    (wpAny_call_entry slot_listiter_next hit.typeIs entry_listiter_next ?_ (args_listiter_next _))
  show wpAny _ _ (field (.ref it) 0 >>= _) _ _ s
  refine wpAny_bind (wpAny_field ho hd (x := .ref l) rfl ?_)
  show wpAny _ _ (if (Value.ref l == Value.none) = true then _ else _) _ _ s
  rw [if_neg (show ¬ ((Value.ref l == Value.none) = true) from Bool.false_ne_true)]
  show wpAny _ _ (field (.ref it) 1 >>= _) _ _ s
  refine wpAny_bind (wpAny_field ho hd (x := .int i 0) rfl ?_)
  show wpAny _ _ (seqItems? (.ref l) >>= _) _ _ s
  refine wpAny_bind (wpAny_seqItems hol hdl ?_)
  simp only [Int.toNat_natCast, hx]
  refine wpAny_bind (wpAny_setField ho hd (by simp) (wpAny_pure ⟨x, rfl, hQ _ ?_ (Heap.SameBut.update ..)⟩))
  exact ⟨_, Heap.get?_update_self _ ho (Obj.isFreed_of_fields (Obj.data_mapFields hd _)), (Obj.cls_mapFields ..).trans hc, by
    rw [Obj.data_mapFields hd]; simp [rawInt]⟩
theorem next_snd1 {k : Nat} {p : Addr} (e : nextV σ k = some (v, σ')) (I : SR σ φ s) (ka : φ[k]? = some p) (h : PV φ s v σ' Q) : wpAny (model prog w) A (call (.builtin "next") [.ref p]) Q E s := by
  unfold nextV at e
  cases ei : σ[k]? with
  | none => rw [ei] at e; cases e
  | some o =>
    rw [ei] at e
    cases o with
    | it j i =>
      obtain ⟨la, kl, hit⟩ := I.obj ei ka
      refine atL_case I kl e fun l xs n el hx rx e => ?_
      obtain ⟨u, q, e⟩ := map_inv e
      obtain ⟨x, ex, rv⟩ := rx.get q
      refine call_function_entry (by decide +kernel) (by decide +kernel) kdk_entry_next (kdk_args_next _) ?_
      unfold Builtin.«next»
      refine wpAny_bind (m := someArgs "next" 1 2 _) (wpAny_of_eq (a := [Value.ref p]) (by first | rfl | kernel_rfl!) ?_)
      dsimp only
      refine wpAny_bind (wpAny_specialOf (name := Str.ofString "__next__") hit.typeIs slot_listiter_next.lookup ?_)
      refine wpAny_ite_split (fun hab => absurd hab (by decide)) (fun _ => ?_)
      refine wpAny_bind (next_special hit ⟨_, hx, rfl, _, rfl⟩ (List.getElem?_toArray.trans ex) fun h' hit' hs' => ?_)
      have g : Go (· = p) s { s with heap := h' } := go_same hs' (by obtain ⟨o, e, _⟩ := hit'; exact ⟨o, e⟩)
      have im := I.immP ka g
      exact wpAny_pure ⟨_, rfl, (h.of (congrArg some e)) _ _ φ (rv.mono (.refl φ) im) (I.put ka g I.bare ⟨la, kl, hit'⟩) (.put ka g)⟩
    | _ => cases e
theorem min_snd {l : List V} {xs : List Value} {n : Nat} {p : Addr} {ts : List (Int × Int × Int)} (hh : A.handled = none) (hu : A.units + 100 < cLine) (I : SR σ φ s) (hx : s.heap.get? p = some { cls := .type "list", data := .seq xs.toArray n }) (rx : VRs φ s.heap l xs)
    (et : tripsOf l = some ts) (em : minL1 ts = some v) (h : PV φ s v σ Q) : wpAny (model prog w) A (call (.builtin "min") [.ref p]) Q E s := by
  cases ts with
  | nil => cases em
  | cons t r =>
    have H := trips_at rx et
    refine min_trips (ts := t :: r) hh hu ⟨_, hx, rfl, _, rfl⟩ (Nat.succ_pos _) H.length.symm (fun i y hy => ?_) fun v h' tk hv hk => ?_
    · have hi : i < (t :: r).length := H.length ▸ lt_of_get (List.getElem?_toArray.symm.trans hy)
      obtain ⟨y', e, q⟩ := H.get (List.getElem?_eq_getElem hi)
      cases e.symm.trans (List.getElem?_toArray.symm.trans hy)
      obtain ⟨a, q1, q2⟩ := q
      exact ⟨a, _, List.getElem?_eq_getElem hi, q1, q2⟩
    · rw [List.getElem?_toArray] at hv
      have hi := lt_of_get hv
      rw [← H.length] at hi
      obtain ⟨y', e, b, q1, u1, u2, u3, hb'⟩ := H.get (List.getElem?_eq_getElem hi)
      cases e.symm.trans hv
      subst q1
      have hm : minT t r = (t :: r)[argBest (fun i j => ltT ((t :: r).getD i (0, 0, 0)) ((t :: r).getD j (0, 0, 0))) ((t :: r).length - 1)] := by
        have := minT_best (t :: r) (0, 0, 0) r 0 (fun j => by rw [Nat.zero_add, Nat.add_comm, List.getElem?_cons_succ]) (by simp)
        refine this.trans ?_
        rw [List.getD_eq_getElem?_getD, List.getElem?_eq_getElem hi, Option.getD_some]
      refine (h.ofv em).keep I hk ?_
      rw [hm]
      exact .tup (hk _ _ hb') (.cons (.int _ _) (.cons (.int _ _) (.cons (.int _ _) .nil)))
theorem biV_snd {b : BI} (hh : A.handled = none) (hu : A.units + 100 < cLine) (hs : HS) (e : biV b vs σ = some (v, σ')) (I : SR σ φ s)
    (r : VRs φ s.heap vs xs) (h : PV φ s v σ' Q) : wpAny (model prog w) A (call (biVal b) xs) Q E s := by
  cases b with
  | len => exact arg1_case (M := fun xs => wpAny (model prog w) A (call (.builtin "len") xs) Q E s) r e fun u x rx e => len_snd hs e I rx h
  | range => exact Exists.elim (map_inv e) fun u q => range_snd q.1 I r (h.of (congrArg some q.2))
  | list => exact arg1_case (M := fun xs => wpAny (model prog w) A (call (.type "list") xs) Q E s) r e fun u x rx e => list_snd hh hs e I rx h
  | min2 =>
    match vs, e with
    | [a, b], e =>
      obtain ⟨x, y, rfl, rx, ry⟩ := r.two
      refine int2_case (M := fun x y => wpAny (model prog w) A (call (.builtin "min") [x, y]) Q E s) rx ry e fun i t j u e => min_two_ints hh fun h' tk hk => ?_
      have h := h.of e
      by_cases hba : j < i
      · rw [if_pos hba] at h ⊢; exact h.keep I hk (.int _ _)
      · rw [if_neg hba] at h ⊢; exact h.keep I hk (.int _ _)
    | [], e => cases e
    | [_], e => cases e
    | _ :: _ :: _ :: _, e => cases e
  | minL =>
    refine arg1_case (M := fun xs => wpAny (model prog w) A (call (.builtin "min") xs) Q E s) r e fun u x rx e => ref1_case (M := fun x => wpAny (model prog w) A (call (.builtin "min") [x]) Q E s) rx e fun k p ka e => atL_case I ka e fun l xs n _ hx rx e => ?_
    have e : (match tripsOf l with
      | some ts => (minL1 ts).map fun v => (v, σ)
      | none => none) = some (v, σ') := e
    cases et : tripsOf l with
    | none => rw [et] at e; cases e
    | some ts =>
      rw [et] at e
      obtain ⟨u, e1, e2⟩ := map_inv e
      exact min_snd hh hu I hx rx et e1 (h.of (congrArg some e2))
  | iter =>
    refine arg1_case (M := fun xs => wpAny (model prog w) A (call (.builtin "iter") xs) Q E s) r e fun u x rx e => ref1_case (M := fun x => wpAny (model prog w) A (call (.builtin "iter") [x]) Q E s) rx e fun k p ka e => atL_case I ka e fun l xs n _ hx rx e => ?_
    refine call_function_entry (by decide +kernel) (by decide +kernel) kdk_entry_iter (kdk_args_iter _) ?_
    unfold Builtin.«iter»
    refine wpAny_bind (m := someArgs "iter" 1 2 _) (wpAny_of_eq (a := [Value.ref p]) (by first | rfl | kernel_rfl!) ?_)
    show wpAny _ _ (pyIter (.ref p) >>= _) _ _ _
    refine wpAny_bind (wpAny_pyIter_list ⟨_, hx, rfl, _, rfl⟩ ?_)
    exact wpAny_pure ⟨_, rfl, (h.of e).new I (nw_push s _ _ _) I.bare (new_addr _) ⟨p, Pre.snoc _ _ _ _ ka, ⟨_, Heap.get?_push_size _ rfl, rfl, rfl⟩⟩⟩
  | next => exact arg1_case (M := fun xs => wpAny (model prog w) A (call (.builtin "next") xs) Q E s) r e fun u x rx e => ref1_case (M := fun x => wpAny (model prog w) A (call (.builtin "next") [x]) Q E s) rx e fun k p ka e => next_snd1 e I ka h
  | ord =>
    refine arg1_case (M := fun xs => wpAny (model prog w) A (call (.builtin "ord") xs) Q E s) r e fun u x rx e => str1_case (M := fun x => wpAny (model prog w) A (call (.builtin "ord") [x]) Q E s) rx e fun i t e => ?_
    match i, e with
    | [c], e => exact P.ord_of_char ((h.of e).int I _ _)
    | [], e => cases e
    | _ :: _ :: _, e => cases e
  | chr =>
    exact arg1_case (M := fun xs => wpAny (model prog w) A (call (.builtin "chr") xs) Q E s) r e fun u x rx e => int1_case (M := fun x => wpAny (model prog w) A (call (.builtin "chr") [x]) Q E s) rx e fun i t e =>
      P.chr_of_int (Bool.or_eq_false_iff.mpr ⟨decide_eq_false (by have := (ite_c e).1; omega), decide_eq_false (by have := (ite_c e).2; omega)⟩) ((h.of (ite_v e)).str I _ _)
  | hex =>
    refine arg1_case (M := fun xs => wpAny (model prog w) A (call (.builtin "hex") xs) Q E s) r e fun u x rx e => int1_case (M := fun x => wpAny (model prog w) A (call (.builtin "hex") [x]) Q E s) rx e fun i t e => ?_
    have ht := hexText (ite_c e).1 (ite_c e).2
    refine P.hex_of_int (by rw [ht]; exact (h.of (ite_v e)).str I _ _) ?_
    rw [ht, S_len]
    exact Nat.le_trans (Nat.add_le_add_right (Nat.add_le_add_right (hexGo_len 20 _ []) 1) 1) (Nat.le_trans (by decide) sizeLine_big)
theorem mOk_snd {m : MI} (e : mOk σ m o = true) (I : SR σ φ s) (r : VR φ s.heap o x) :
    PlainAttrs (miT m) ∧ Slot (miT m) (miName m) (miId m) ∧ typeOf (.builtin (miId m)) = pure (.type "method_descriptor") ∧ s.TypeIs x (miT m) ∧ (∀ a, x = .ref a → ∃ ob, s.heap.get? a = some ob ∧ ob.dict = none) := by
  have str : (str1 o fun _ => some ()).isSome = true → (∀ T id, T = "str" → s.TypeIs x T) ∧ (∀ a, x = .ref a → ∃ ob, s.heap.get? a = some ob ∧ ob.dict = none) := fun e => by
    obtain ⟨_, e⟩ := Option.isSome_iff_exists.mp e
    exact str1_case (M := fun x => (∀ T (id : String), T = "str" → s.TypeIs x T) ∧ (∀ a, x = .ref a → ∃ ob, s.heap.get? a = some ob ∧ ob.dict = none)) r e fun i t _ => ⟨fun T _ q => q ▸ typeIs_str _ _ _, fun a q => nomatch q⟩
  cases m with
  | append =>
    obtain ⟨_, e⟩ := Option.isSome_iff_exists.mp e
    refine ref1_case (M := fun x => _ ∧ _ ∧ _ ∧ s.TypeIs x "list" ∧ (∀ a, x = .ref a → ∃ ob, s.heap.get? a = some ob ∧ ob.dict = none)) r e fun k p ka e => ?_
    exact atL_case I ka e fun l xs n _ hx _ _ => ⟨F.plainAttrs_list, slot_list_append, type_list_append, ⟨_, hx, rfl⟩, fun b h => by cases h; exact ⟨_, hx, rfl⟩⟩
  | get =>
    obtain ⟨_, e⟩ := Option.isSome_iff_exists.mp e
    refine ref1_case (M := fun x => _ ∧ _ ∧ _ ∧ s.TypeIs x "dict" ∧ (∀ a, x = .ref a → ∃ ob, s.heap.get? a = some ob ∧ ob.dict = none)) r e fun k p ka e => ?_
    exact atS_case I ka e fun l kvs _ hd _ _ => ⟨F.plainAttrs_dict, F.slot_dict_get, F.type_dict_get, hd.dictOf.typeIs, fun b h => by cases h; obtain ⟨ob, _, _, e, _, d, _⟩ := DictAt_cls hd; exact ⟨ob, e, d⟩⟩
  | join => exact ⟨F.plainAttrs_str, F.slot_str_join, F.type_str_join, (str e).1 _ "" rfl, (str e).2⟩
  | lower => exact ⟨F.plainAttrs_str, F.slot_str_lower, F.type_str_lower, (str e).1 _ "" rfl, (str e).2⟩
theorem strs_are {h : Heap} {l : List V} {xs : List Value} (r : VRs φ h l xs) : ∀ {ss : List (List Nat)}, strsOf l = some ss → ∃ ps : List (PySem.Str × Tok), xs = strValues ps ∧ ps.map (·.1) = ss.map S := by
  induction r with
  | nil => intro ss e; cases e; exact ⟨[], rfl, rfl⟩
  | cons a _ ih =>
    intro ss e
    cases a with
    | str x t =>
      obtain ⟨ss', e1, rfl⟩ := map_inv (o := strsOf _) e
      obtain ⟨ps, rfl, e2⟩ := ih e1
      exact ⟨(S x, t) :: ps, rfl, congrArg (S x :: ·) e2⟩
    | _ => cases e
theorem joinOk_S {sep : List Nat} {ss : List (List Nat)} (h : lenOk ((ss.map List.length).sum + ss.length * sep.length) = true) : JoinOk (S sep) (ss.map S) = true := by
  unfold JoinOk
  rw [StrLaws.joinTotal, List.map_map, S_len, List.length_map]
  have : ((fun x : PySem.Str => x.length) ∘ S) = List.length := by funext x; exact S_len x
  rw [this]
  have := of_decide_eq_true h
  unfold Builtin.Str.tooLong
  rw [Bool.not_eq_true']
  have := sizeLine_big
  exact decide_eq_false (by omega)
theorem miV_snd {m : MI} (hs : HS) (e : miV m o vs σ = some (v, σ')) (I : SR σ φ s) (ro : VR φ s.heap o x) (r : VRs φ s.heap vs xs) (h : PV φ s v σ' Q) : wpAny (model prog w) A (call (.builtin (miId m)) (x :: xs)) Q E s := by
  cases m with
  | append =>
    refine ref1_case (M := fun x => wpAny (model prog w) A (call (.builtin "list.append") (x :: xs)) Q E s) ro e fun k p ka e => arg1_case (M := fun xs => wpAny (model prog w) A (call (.builtin "list.append") (.ref p :: xs)) Q E s) r e fun u y ry e => atL_case I ka e fun l xs n _ hx rx e => ?_
    refine wpAny_list_append_plain (items := xs.toArray) ⟨n, hx⟩ (fun h' ⟨n', hp⟩ hs' => ?_) (by rw [List.size_toArray, ← rx.length]; exact len_line (ite_c e))
    have g : Go (· = p) s { s with heap := h' } := go_same hs' ⟨_, hp⟩
    have im := I.immP ka g
    exact (h.of (ite_v e)) _ _ φ .none (I.put ka g I.bare ⟨xs ++ [y], n', by rw [hp]; simp, All2.snoc (VRs.mono (.refl φ) im rx) (ry.mono (.refl φ) im)⟩) (.put ka g)
  | join =>
    refine str1_case (M := fun x => wpAny (model prog w) A (call (.builtin "str.join") (x :: xs)) Q E s) ro e fun sep t e => arg1_case (M := fun xs => wpAny (model prog w) A (call (.builtin "str.join") (.str (S sep) t :: xs)) Q E s) r e fun u y ry e => ref1_case (M := fun y => wpAny (model prog w) A (call (.builtin "str.join") [.str (S sep) t, y]) Q E s) ry e fun k p ka e => atL_case I ka e fun l xs n _ hx rx e => ?_
    have e : (match strsOf l with
      | some ss => if lenOk ((ss.map List.length).sum + ss.length * sep.length) then some (.str (joinS sep ss), σ) else none
      | none => none) = some (v, σ') := e
    cases es : strsOf l with
    | none => rw [es] at e; cases e
    | some ss =>
      rw [es] at e
      obtain ⟨ps, rfl, e2⟩ := strs_are rx es
      refine SC.join (texts := ss.map S) ⟨_, hx, rfl, _, rfl⟩ e2 (joinOk_S (ite_c e)) fun t' k => ?_
      rw [show Txt.join (S _) (ss.map S) = S (joinS _ ss) from (StrLaws.glued_eq_join _ _).trans (joinS_eq _ _)]
      exact (h.of (ite_v e)).str I _ _
  | lower =>
    refine str1_case (M := fun x => wpAny (model prog w) A (call (.builtin "str.lower") (x :: xs)) Q E s) ro e fun sep t e => ?_
    match sep, vs, r, e with
    | [c], [], r, e =>
      cases r
      have hl := lower_one (ite_c e)
      exact SC.lower (by rw [hl, S_len]; show Builtin.Str.tooLong 1 = false; decide) (by rw [hl]; exact (h.of (ite_v e)).str I _ _)
    | [], _, _, e => cases e
    | _ :: _ :: _, _, _, e => cases e
    | [_], _ :: _, _, e => cases e
  | get =>
    refine ref1_case (M := fun x => wpAny (model prog w) A (call (.builtin "dict.get") (x :: xs)) Q E s) ro e fun k p ka e => ?_
    match vs, r, e with
    | [i, d], r, e =>
      obtain ⟨y, z, rfl, ry, rz⟩ := r.two
      refine str1_case (M := fun y => wpAny (model prog w) A (call (.builtin "dict.get") [.ref p, y, z]) Q E s) ry e fun i u e => atS_case I ka e fun es kvs _ hd rk e => ?_
      refine call_meetsIn F.slot_dict_get hd.dictOf.typeIs F.entry_dict_get (F.args_dict_get_3 _ _ _) (meets_dict_get_default (strKind prog w) _ (k := S i) isStrKind (I.noSys hs ka) z) ⟨_, hd.dictOf.mapOf, ?_⟩
      have h := h.of e
      show Q ((valueAt kvs (S i)).getD z) _
      rcases valueAt_kr (fun _ _ => S_inj) rk i with ⟨h1, h2⟩ | ⟨v', x, h1, h2, h3⟩
      · rw [h1] at h
        rw [h2]
        exact h.toks I _ rz
      · rw [h1] at h
        rw [h2]
        exact h.toks I _ h3
    | [], _, e => cases e
    | [_], _, e => cases e
    | _ :: _ :: _ :: _, _, e => cases e
end
end
section
set_option maxHeartbeats 2000000
set_option backward.match.sparseCases false
open PySem PySem.W PyProof.Rows PySem.Calls
theorem lookup_at {α : Type} {n : PySem.Str} {k : α} {l : List (PySem.Str × α)} : ∀ {i : Nat}, (l.map (·.1)).Nodup → l[i]? = some (n, k) → l.lookup n = some k := by
  induction l with
  | nil => exact fun _ h => nomatch h
  | cons y r ih =>
    intro i hn h
    rw [List.map_cons, List.nodup_cons] at hn
    rw [List.lookup_cons]
    cases i with
    | zero => cases h; rw [beq_self_eq_true]
    | succ i =>
      have hr : r[i]? = some (n, k) := h
      rw [beq_eq_false_iff_ne.mpr fun e : n = y.1 => hn.1 (e ▸ List.mem_map_of_mem (List.mem_of_getElem? hr))]
      exact ih hn.2 hr
structure EnvOK (sc : Scope) (env : Env) (h0 : Heap) : Prop where
  same : env.scope.names.map (·.1) = sc.names.map (·.1)
  kk : ∀ (i : Nat) (n : PySem.Str) (k : NameKind), sc.names[i]? = some (n, k) → env.scope.names[i]? = some (n, k) ∨ (k = .free ∧ env.scope.names[i]? = some (n, .cell))
  glo : ∀ n, sc.names.lookup n = some .globalImplicit → env.kindOf n = some .globalImplicit
  fn : env.scope.kind = .function
  nd : (sc.names.map (·.1)).Nodup
  plain : ∀ x ∈ sc.names, (x.1 == ("__debug__" : PySem.Str)) = false ∧ (x.1 == ("__classdict__" : PySem.Str)) = false
  globals : env.globals = mainGlobals
  builtins : env.builtins = builtinsNs
  loc : h0.get? env.locals = none
  apart : ∀ n n' c, env.cells.lookup n = some c → env.cells.lookup n' = some c → n = n'
noncomputable def CompS (env : Env) : Prop := ∃ k, env.scope.names[0]? = some ((".0" : PySem.Str), k)
noncomputable def Own (env : Env) (h0 : Heap) (i : Nat) : Prop := ∀ (n : PySem.Str) (k : NameKind), env.scope.names[i]? = some (n, k) → (k = .globalImplicit → ¬ CompS env) ∧ (k = .cell ∨ k = .free → k = .cell ∧ ∀ c, env.cells.lookup n = some c → h0.get? c = none)
noncomputable def Mine1 (env : Env) (a : Addr) : Prop := a = env.locals ∨ ∃ (i : Nat) (n : PySem.Str) (k : NameKind), env.scope.names[i]? = some (n, k) ∧ (k = .cell ∨ k = .free) ∧ env.cells.lookup n = some a
structure FR (env : Env) (ρ : Env1) (φ : List Addr) (s : Shared) : Prop where
  kinds : ∀ i, i < ρ.length → ∃ (n : PySem.Str) (k : NameKind), env.scope.names[i]? = some (n, k) ∧ (k = .local ∨ (k = .cell ∨ k = .free) ∨ (k = .globalImplicit ∧ ρ[i]? = some none ∧ CompS env))
  loc : ∃ m, s.heap.Ns env.locals m ∧ ∀ (i : Nat) (n : PySem.Str) (x : V), env.scope.names[i]? = some (n, .local) → ρ[i]? = some (some x) → ∃ y, m n = some y ∧ VR φ s.heap x y
  cel : ∀ (i : Nat) (n : PySem.Str) (k : NameKind), env.scope.names[i]? = some (n, k) → k = .cell ∨ k = .free → ∃ c v, env.cells.lookup n = some c ∧ s.heap.IsCell c v ∧ ∀ x, ρ[i]? = some (some x) → ∃ y, v = some y ∧ VR φ s.heap x y
  nl : env.locals ∉ φ
section
variable {h0 : Heap} {σ σ' : St} {φ φ' : List Addr} {A : Around} {E : Value → Shared → Prop} {s s' : Shared} {env : Env} {sc : Scope} {ρ : Env1} {i : Nat} {n m : PySem.Str} {k : NameKind}
noncomputable def At (sc : Scope) (i : Nat) (n : PySem.Str) : Prop := (sc.names.map (·.1))[i]? = some n
theorem At.of (h : sc.names[i]? = some (n, k)) : At sc i n := by unfold At; rw [List.getElem?_map, h]; rfl
theorem EnvOK.nd' (K : EnvOK sc env h0) : (env.scope.names.map (·.1)).Nodup := K.same.symm ▸ K.nd
theorem EnvOK.kind (K : EnvOK sc env h0) (h : env.scope.names[i]? = some (n, k)) : env.kindOf n = some k := lookup_at K.nd' h
theorem EnvOK.at_ (K : EnvOK sc env h0) (h : env.scope.names[i]? = some (n, k)) : At sc i n := by
  have : At env.scope i n := .of h
  unfold At at this ⊢
  rw [← K.same]; exact this
theorem EnvOK.nm (K : EnvOK sc env h0) (a : At sc i m) (h : env.scope.names[i]? = some (n, k)) : n = m := Option.some.inj ((K.at_ h).symm.trans a)
theorem EnvOK.pl (K : EnvOK sc env h0) (a : At sc i n) : (n == ("__debug__" : PySem.Str)) = false ∧ (n == ("__classdict__" : PySem.Str)) = false := by
  unfold At at a
  rw [List.getElem?_map] at a
  obtain ⟨y, q, e⟩ := map_inv a
  exact e ▸ K.plain y (List.mem_of_getElem? q)
theorem EnvOK.uniq (K : EnvOK sc env h0) {j : Nat} {k' : NameKind} (h : env.scope.names[i]? = some (n, k)) (h' : env.scope.names[j]? = some (n, k')) : j = i :=
  (List.getElem?_inj (lt_of_get (K.at_ h')) K.nd).mp ((K.at_ h').trans (K.at_ h).symm)
theorem FR.go0 (F : FR env ρ φ s) {P : Addr → Prop} (g : Go0 P s s') (x : Pre φ φ') (im : ImmK s.heap s'.heap) (hφ : ∀ a ∈ φ', a ∈ φ ∨ s.heap.get? a = none)
    (hl : ¬ P env.locals) (hc : ∀ c v, s.heap.IsCell c v → ¬ P c) : FR env ρ φ' s' where
  kinds := F.kinds
  loc := Exists.elim F.loc fun m q => ⟨m, q.1.at' fun o e => g.keep _ o e hl, fun i n x' h1 h2 => Exists.elim (q.2 i n x' h1 h2) fun y r => ⟨y, r.1, r.2.mono x im⟩⟩
  cel := fun i n k h1 h2 => by
    obtain ⟨c, v, e, hcell, r⟩ := F.cel i n k h1 h2
    obtain ⟨o, ho, hd⟩ := id hcell
    exact ⟨c, v, e, ⟨o, g.keep c o ho (hc c v hcell), hd⟩, fun x' hx => Exists.elim (r x' hx) fun y r => ⟨y, r.1, r.2.mono x im⟩⟩
  nl := fun hl' => (hφ _ hl').elim F.nl fun h => by
    obtain ⟨m, ⟨o, _, _, e, _⟩, _⟩ := F.loc
    exact none_some h e
theorem SR.notCell (I : SR σ φ s) {c : Addr} {v : Option Value} (h : s.heap.IsCell c v) : c ∉ φ := fun hc => by
  obtain ⟨o, ho, hd⟩ := h
  obtain ⟨ob, T, e, _, _, n⟩ := I.there hc
  cases ho.symm.trans e; exact n _ hd
theorem FR.stp (F : FR env ρ φ s) (I : SR σ φ s) (t : Stp φ s φ' s') : FR env ρ φ' s' :=
  F.go0 t.go.toGo0 t.ext.1 (I.immK t.go fun _ h => h) t.ext.2 F.nl fun c v h => I.notCell h
theorem FR.mine (F : FR env ρ φ s) {a : Addr} (h : Mine1 env a) : ∃ o, s.heap.get? a = some o ∧ ∀ fs, o.data ≠ .fields fs := by
  rcases h with rfl | ⟨i, n, k, h1, h2, h3⟩
  · obtain ⟨m, ⟨o, es, ep, e, d, _⟩, _⟩ := F.loc
    exact ⟨o, e, fun fs q => nomatch d.symm.trans q⟩
  · obtain ⟨c, v, e1, ⟨o, e, d⟩, _⟩ := F.cel i n k h1 h2
    cases h3.symm.trans e1
    exact ⟨o, e, fun fs q => nomatch d.symm.trans q⟩
theorem ld_snd {Q : Value → Shared → Prop} {v : V} (K : EnvOK sc env h0) (F : FR env ρ φ s) (a : At sc i n) (e : ρ[i]? = some (some v)) (h : ∀ y, VR φ s.heap v y → Q y s) : wpAny (model prog w) A (loadName env n) Q E s := by
  obtain ⟨m, k, hn, hk⟩ := F.kinds i (lt_of_get e)
  obtain rfl := K.nm a hn
  rcases hk with rfl | hk | ⟨_, hk, _⟩
  · obtain ⟨m, hm, hv⟩ := F.loc
    obtain ⟨y, e, r⟩ := hv i _ v hn e
    exact wpAny_loadName_local K.fn (K.kind hn) hm e (h y r)
  · obtain ⟨c, v', e1, e2, r⟩ := F.cel i _ k hn hk
    obtain ⟨y, rfl, rv⟩ := r v e
    rcases hk with rfl | rfl
    · exact wpAny_loadName_cell K.fn (K.kind hn) e1 e2 (h y rv)
    · exact wpAny_loadName_free K.fn (K.kind hn) e1 e2 (h y rv) (K.pl a).2
  · cases e.symm.trans hk
theorem load_snd {Q : Value → Shared → Prop} {v : V} {pos : Pos} (K : EnvOK sc env h0) (F : FR env ρ φ s) (a : At sc i n) (e : ρ[i]? = some (some v)) (h : ∀ y, VR φ s.heap v y → Q y s) : wpAny (model prog w) A (eval (.Name n pos) env) Q E s :=
  wpAny_Name (ld_snd K F a e h) (K.pl a).1
noncomputable def Hb (h0 : Heap) : Prop := ∀ a o, hb.get? a = some o → h0.get? a = some o
theorem Hb.none (H : Hb h0) {a : Addr} (h : h0.get? a = none) : hb.get? a = none := no_obj fun o e => none_some h (H a o e)
theorem setL_inv {v : V} {ρ' : Env1} (e : setL ρ i v = some ρ') : i < ρ.length ∧ ρ.set i (some v) = ρ' := ⟨ite_c e, Option.some.inj (ite_v e)⟩
theorem set_get {v x : V} {j : Nat} (h : (ρ.set i (some v))[j]? = some (some x)) : (j = i ∧ x = v) ∨ (j ≠ i ∧ ρ[j]? = some (some x)) := by
  by_cases q : i = j
  · subst q
    rw [List.getElem?_set_self (by have := lt_of_get h; rwa [List.length_set] at this)] at h
    exact .inl ⟨rfl, (Option.some.inj (Option.some.inj h)).symm⟩
  · rw [List.getElem?_set_ne q] at h
    exact .inr ⟨fun e => q e.symm, h⟩
theorem frame_put {a : Addr} {h' : Heap} {tk : Nat} (I : SR σ φ s) (H : Hb h0) (ha : h0.get? a = none) (hm : Mine1 env a) (hi : ∃ o, s.heap.get? a = some o ∧ ¬ Imm o) (na : a ∉ φ) (hs : Heap.SameBut a s.heap h') (hl : ∃ o, h'.get? a = some o) :
    SR σ φ { s with heap := h', toks := tk } ∧ Go (fun a => a ∉ φ ∧ h0.get? a = none ∧ Mine1 env a) s { s with heap := h', toks := tk } ∧ ImmK s.heap h' := by
  have g : Go (· = a) s { s with heap := h', toks := tk } := go_same hs hl
  have im : ImmK s.heap h' := g.toGo0.imm fun b q => q ▸ hi
  exact ⟨I.step g (fun b q => q ▸ ⟨na, H.none ha⟩) im I.bare, g.mono fun b q => q ▸ ⟨na, ha, hm⟩, im⟩
theorem store_snd {Q : Unit → Shared → Prop} {v : V} {ρ' : Env1} {z : Value} (K : EnvOK sc env h0) (O : Own env h0 i) (H : Hb h0) (I : SR σ φ s) (F : FR env ρ φ s) (a : At sc i n) (e : setL ρ i v = some ρ') (r : VR φ s.heap v z)
    (h : ∀ s', SR σ φ s' → FR env ρ' φ s' → Go (fun a => a ∉ φ ∧ h0.get? a = none ∧ Mine1 env a) s s' → ImmK s.heap s'.heap → s'.heap.objs.size = s.heap.objs.size → Q () s') : wpAny (model prog w) A (storeName env n z) Q E s := by
  obtain ⟨hi, rfl⟩ := setL_inv e
  obtain ⟨n1, k, hn, hk⟩ := F.kinds i hi
  obtain rfl := K.nm a hn
  obtain ⟨m, hm, hv⟩ := F.loc
  obtain ⟨ol, es', ep', e1, e2, _⟩ := id hm
  have notLoc : ∀ {o : Obj} {c : Option Value}, s.heap.get? env.locals = some o → o.data = .cell c → False := fun e d => by
    cases e1.symm.trans e
    cases e2.symm.trans d
  have hO : k = .local ∨ (k = .cell ∧ ∀ c, env.cells.lookup n1 = some c → h0.get? c = none) := by
    rcases hk with q | hk | ⟨hk, _, hc⟩
    · exact .inl q
    · exact .inr ((O n1 k hn).2 hk)
    · exact absurd hc ((O n1 k hn).1 hk)
  have kset : ∀ j, j < (ρ.set i (some v)).length → ∃ (n : PySem.Str) (k : NameKind), env.scope.names[j]? = some (n, k) ∧ (k = .local ∨ (k = .cell ∨ k = .free) ∨ (k = .globalImplicit ∧ (ρ.set i (some v))[j]? = some none ∧ CompS env)) := fun j hj => by
    obtain ⟨n2, k2, h1, h2⟩ := F.kinds j (List.length_set (as := ρ) ▸ hj)
    refine ⟨n2, k2, h1, h2.imp id (Or.imp id fun ⟨q1, q2, q3⟩ => ⟨q1, ?_, q3⟩)⟩
    by_cases hji : i = j
    · subst hji
      cases hn.symm.trans h1
      subst q1
      rcases hO with q | ⟨q, _⟩ <;> cases q
    · rw [List.getElem?_set_ne hji]; exact q2
  rcases hO with rfl | ⟨rfl, hc0⟩
  · refine wpAny_storeName_local (K.kind hn) hm (fun h' hn' hs' => ?_) (by rw [K.fn]; rfl)
    obtain ⟨o2, _, _, e3, _⟩ := id hn'
    obtain ⟨I', g, im⟩ := frame_put (tk := s.toks + 1) I H K.loc (.inl rfl) ⟨ol, e1, fun q => by rcases q with ⟨_, _, _, d⟩ | ⟨_, _, d⟩ <;> cases e2.symm.trans d⟩ F.nl hs' ⟨_, e3⟩
    refine h _ I' ⟨kset, ⟨_, hn', fun j n' x hj hx => ?_⟩, fun j n' k' hj2 hk' => ?_, F.nl⟩ g im hs'.1
    · rcases set_get hx with ⟨q1, q2⟩ | ⟨q, hx⟩
      · subst q1 q2
        cases hn.symm.trans hj
        exact ⟨z, if_pos rfl, r.mono (.refl φ) im⟩
      · obtain ⟨y, e, r'⟩ := hv j n' x hj hx
        exact ⟨y, (if_neg fun p => q (K.uniq hn (p ▸ hj))).trans e, r'.mono (.refl φ) im⟩
    · obtain ⟨c, v', e4, e5, r'⟩ := F.cel j n' k' hj2 hk'
      obtain ⟨o, ho, hd⟩ := id e5
      refine ⟨c, v', e4, e5.sameBut hs' (fun q => notLoc (q ▸ ho) hd), fun x hx => ?_⟩
      rcases set_get hx with ⟨q, _⟩ | ⟨_, hx⟩
      · subst q
        cases hn.symm.trans hj2
        rcases hk' with hk' | hk' <;> cases hk'
      · obtain ⟨y, e, r''⟩ := r' x hx
        exact ⟨y, e, r''.mono (.refl φ) im⟩
  · obtain ⟨c, v0, e4, e5, _⟩ := F.cel i n1 .cell hn (.inl rfl)
    obtain ⟨oc, e6, e7⟩ := id e5
    have hcl : c ≠ env.locals := fun q => notLoc (q ▸ e6) e7
    refine wpAny_storeName_cell K.fn (K.kind hn) e4 e5 fun h' hc' hs' => ?_
    obtain ⟨o2, e3, _⟩ := id hc'
    obtain ⟨I', g, im⟩ := frame_put (tk := s.toks) I H (hc0 c e4) (.inr ⟨i, _, .cell, hn, .inl rfl, e4⟩) ⟨oc, e6, fun q => by rcases q with ⟨_, _, _, d⟩ | ⟨_, _, d⟩ <;> cases e7.symm.trans d⟩ (I.notCell e5) hs' ⟨_, e3⟩
    refine h _ I' ⟨kset, ⟨m, hm.sameBut hs' (fun q => hcl q.symm), fun j n' x hj hx => ?_⟩, fun j n' k' hj2 hk' => ?_, F.nl⟩ g im hs'.1
    · rcases set_get hx with ⟨q, _⟩ | ⟨_, hx⟩
      · subst q; cases hn.symm.trans hj
      · obtain ⟨y, e, r'⟩ := hv j n' x hj hx
        exact ⟨y, e, r'.mono (.refl φ) im⟩
    · by_cases hji : j = i
      · subst hji
        cases hn.symm.trans hj2
        refine ⟨c, _, e4, hc', fun x hx => ?_⟩
        rcases set_get hx with ⟨_, q⟩ | ⟨q, _⟩
        · subst q; exact ⟨z, rfl, r.mono (.refl φ) im⟩
        · exact absurd rfl q
      · obtain ⟨c', v', e8, e9, r'⟩ := F.cel j n' k' hj2 hk'
        refine ⟨c', v', e8, e9.sameBut hs' (fun q => hji (K.uniq hn (K.apart _ _ _ e8 (q ▸ e4) ▸ hj2))), fun x hx => ?_⟩
        rcases set_get hx with ⟨q, _⟩ | ⟨_, hx⟩
        · exact absurd q hji
        · obtain ⟨y, e, r''⟩ := r' x hx
          exact ⟨y, e, r''.mono (.refl φ) im⟩
end
end
section
set_option maxHeartbeats 2000000
set_option backward.match.sparseCases false
open PySem PySem.W PyProof.Rows PySem.Calls
noncomputable def itTs : List String := ["list_iterator", "tuple_iterator", "range_iterator", "str_iterator", "str_ascii_iterator", "dict_keyiterator", "generator"]
noncomputable def NI (h : Heap) (a : Addr) : Prop := ∃ o fs, h.get? a = some o ∧ o.data = .fields fs ∧ ∃ T, o.cls = .type T ∧ itTs.contains T = true
inductive ItR (φ : List Addr) (h : Heap) (a : Addr) : It → Prop
  | walk {fp : List Addr} {n i : Nat} {P : Nat → Value → Prop} {St : Nat → Heap → Prop} {l : List V} :
      (∀ A' : Around, A'.handled = none → Walks prog w A' a fp [a] n P St) → (∀ j h', St j h' → NI h' a) → i + l.length = n → St i h → (∀ b ∈ fp, b = a ∨ ∃ o, h.get? b = some o ∧ Imm o) →
      (∀ j v, l[j]? = some v → ∀ y, P (i + j) y → VR φ h v y) → ItR φ h a (.vs l)
  | seq {k i : Nat} {l : Addr} : φ[k]? = some l → h.IsListIter a l i → ItR φ h a (.seq k i)
  | dk {k n i : Nat} {d : Addr} : φ[k]? = some d → h.IsKeyIter a d i n n → ItR φ h a (.dk k n i)
theorem ItR.ni {φ : List Addr} {h : Heap} {a : Addr} {it : It} (R : ItR φ h a it) : NI h a := by
  cases R with
  | walk W hn _ st _ _ => exact hn _ _ st
  | seq e hi => obtain ⟨o, e, c, d⟩ := hi; exact ⟨o, _, e, d, _, c, by decide⟩
  | dk e hi => obtain ⟨o, e, c, d⟩ := hi; exact ⟨o, _, e, d, _, c, by decide⟩
theorem NI.notImm {h : Heap} {a : Addr} (n : NI h a) : ∃ ob, h.get? a = some ob ∧ ¬ Imm ob := by
  obtain ⟨o, fs, e, d, T, c, hc⟩ := n
  refine ⟨o, e, fun i => ?_⟩
  rcases i with ⟨_, _, _, h⟩ | ⟨h, _⟩
  · cases d.symm.trans h
  · cases c.symm.trans h
    exact absurd hc (by decide)
section
variable {h0 : Heap} {σ σ' : St} {φ φ' : List Addr} {A : Around} {E : Value → Shared → Prop} {s s' : Shared} {env : Env} {ρ : Env1} {a : Addr} {it : It} {v : V} {x : Value}
theorem ItR.go {h h' : Heap} (R : ItR φ h a it) (hp : Pre φ φ') (im : ImmK h h') (ha : ∀ o, h.get? a = some o → h'.get? a = some o) : ItR φ' h' a it := by
  cases R with
  | walk W hn hl st hf hv =>
    exact .walk W hn hl ((W { : Around } rfl).frame _ _ _ st fun b hb o e => (hf b hb).elim (fun q => by rw [q] at e ⊢; exact ha o e) fun ⟨o', e', i⟩ => im _ _ e (Option.some.inj (e'.symm.trans e) ▸ i))
      (fun b hb => (hf b hb).imp id fun ⟨o, e, i⟩ => ⟨o, im _ _ e i, i⟩) fun j v hj y hy => (hv j v hj y hy).mono hp im
  | seq e hi => obtain ⟨o, e', c⟩ := hi; exact .seq (hp _ _ e) ⟨o, ha o e', c⟩
  | dk e hi => obtain ⟨o, e', c⟩ := hi; exact .dk (hp _ _ e) ⟨o, ha o e', c⟩
theorem Stp.then0 {s0 : Shared} {φ0 : List Addr} {P : Addr → Prop} (a : Stp φ0 s0 φ s) (g : Go0 P s s') (hP : ∀ x, P x → s0.heap.get? x = none) : Stp φ0 s0 φ s' :=
  ⟨a.ext, ⟨⟨fun x o e n => g.keep x o (a.go.keep x o e n) fun p => none_some (hP x p) e, g.os.trans a.go.os, fun i y e => g.gens i y (a.go.gens i y e)⟩, fun x o e => Exists.elim (a.go.live x o e) fun o' e' => ⟨o', g.keep x o' e' fun p => none_some (hP x p) e⟩⟩⟩
theorem FR.iter (F : FR env ρ φ s) (n : NI s.heap a) (g : Go0 (· = a) s s') : FR env ρ φ s' := by
  obtain ⟨o, fs, e, d, _⟩ := id n
  refine F.go0 g (.refl φ) (g.imm fun x q => q ▸ n.notImm) (fun a h => .inl h) (fun q => ?_) fun c v hc q => ?_
  · obtain ⟨o', e', d'⟩ := F.mine (.inl q.symm)
    cases e.symm.trans e'; exact d' _ d
  · obtain ⟨o', e', d'⟩ := hc
    rw [q] at e'
    cases e.symm.trans e'; cases d.symm.trans d'
theorem go0_same {h' : Heap} {t : Nat} {d : Drawn} (hs : ∀ b o, b ≠ a → s.heap.get? b = some o → h'.get? b = some o) : Go0 (· = a) s ⟨h', s.gens, d, t, s.os⟩ :=
  ⟨fun b o e n => hs b o n e, rfl, fun _ _ e => e⟩
noncomputable def NX1 (φ : List Addr) (s : Shared) (a : Addr) (σ : St) (r : Option (V × It)) (Q : Option Value → Shared → Prop) : Prop := match r with
  | none => ∀ s', SR σ φ s' → Go0 (· = a) s s' → Q none s'
  | some p => ∀ y s', VR φ s'.heap p.1 y → ItR φ s'.heap a p.2 → SR σ φ s' → Go0 (· = a) s s' → Q (some y) s'
theorem NX1.of {r r' : Option (V × It)} {Q : Option Value → Shared → Prop} (h : NX1 φ s a σ r Q) (e : some r' = some r) : NX1 φ s a σ r' Q := by cases e; exact h
theorem next_snd {r : Option (V × It)} {Q : Option Value → Shared → Prop} (hh : A.handled = none) (e : nextIt it σ = some r) (I : SR σ φ s) (R : ItR φ s.heap a it) (ha : a ∉ φ ∧ hb.get? a = none) (h : NX1 φ s a σ r Q) :
    wpAny (model prog w) A (pyNext (.ref a)) Q E s := by
  have ni := R.ni.notImm
  have im : ∀ {s' : Shared}, Go0 (· = a) s s' → ImmK s.heap s'.heap := fun g => g.imm fun x q => q ▸ ni
  have st : ∀ {s' : Shared}, Go0 (· = a) s s' → AllBare s'.gens → SR σ φ s' := fun g hg => I.step0 g (fun x q => q ▸ ha) (im g) hg
  cases R with
  | @walk fp n i P St l W hn hl hst hf hv =>
    cases l with
    | nil =>
      refine (W A hh).done s _ _ (show St n s.heap from hl ▸ hst) fun h' tk hk => ?_
      have g : Go0 (· = a) s { s with heap := h', toks := tk } := go0_same fun b o hb e => hk b o (fun q => hb (List.mem_singleton.mp q)) e
      exact h.of e _ (st g I.bare) g
    | cons v l =>
      refine (W A hh).item i s _ _ (by rw [List.length_cons] at hl; omega) hst fun y h' tk hP hst' hk => ?_
      have g : Go0 (· = a) s { s with heap := h', toks := tk } := go0_same fun b o hb e => hk b o (fun q => hb (List.mem_singleton.mp q)) e
      have hm := im g
      refine h.of e y _ ((hv 0 v rfl y hP).mono (.refl φ) hm) (.walk W hn (i := i + 1) (by rw [List.length_cons] at hl; omega) hst' (fun b hb => (hf b hb).imp id fun ⟨o, e, i⟩ => ⟨o, hm _ _ e i, i⟩) fun j v hj y hy => ?_) (st g I.bare) g
      exact (hv (j + 1) v hj y (by rw [Nat.add_comm j, ← Nat.add_assoc]; exact hy)).mono (.refl φ) hm
  | @seq k i la ek hi =>
    refine atL_case I ek e fun l xs n _ hx rx e => ?_
    cases q : l[i]? with
    | some v =>
      rw [q] at e
      obtain ⟨y, ey, ry⟩ := rx.get q
      refine wpAny_pyNext_list_item hi ⟨_, hx, rfl, _, rfl⟩ (List.getElem?_toArray.trans ey) fun h' hi' hs' => ?_
      have g : Go0 (· = a) s { s with heap := h' } := go0_same fun b o hb e => (hs'.2 b hb).trans e
      exact h.of e y _ (ry.mono (.refl φ) (im g)) (.seq ek hi') (st g I.bare) g
    | none =>
      rw [q] at e
      refine wpAny_pyNext_list_end hh hi ⟨_, hx, rfl, _, rfl⟩ (by rw [List.getElem?_toArray, List.getElem?_eq_none_iff, ← rx.length]; exact List.getElem?_eq_none_iff.mp q) fun h' he => ?_
      have g : Go0 (· = a) s { s with heap := h' } := go0_same fun b o hb e => he b o hb e
      exact h.of e _ (st g I.bare) g
  | @dk k n i d ek hi =>
    refine atI_case I ek e fun es kvs _ hd rk e => ?_
    have hen := ite_c e
    have e := ite_v e
    rw [← hen, rk.length] at hi
    rw [rk.length] at hd
    cases q : es[i]? with
    | some e1 =>
      rw [q] at e
      obtain ⟨kv, hv, q1, q2⟩ := rk.get q
      refine wpAny_pyNext_dict_item (knd := intKind prog w) hi hd hv fun key h' hk hi' hs' => ?_
      obtain ⟨t, rfl⟩ := Value.isInt_shape hk
      have g : Go0 (· = a) s { s with heap := h' } := go0_same fun b o hb e => (hs'.2 b hb).trans e
      rw [← rk.length, hen] at hi'
      exact h.of e _ _ (q1 ▸ .int _ t) (.dk ek hi') (st g I.bare) g
    | none =>
      rw [q] at e
      refine wpAny_pyNext_dict_end (knd := intKind prog w) hh hi hd (by rw [List.getElem?_eq_none_iff, ← rk.length]; exact List.getElem?_eq_none_iff.mp q) fun h' he => ?_
      have g : Go0 (· = a) s { s with heap := h' } := go0_same fun b o hb e => he b o hb e
      exact h.of e _ (st g I.bare) g
theorem sign_vr {h : Heap} {x : List Nat} {j : Nat} (hj : (x.map fun c => V.str [c])[j]? = some v) {y : Value} (hy : SignAt (S x) (0 + j) y) : VR φ h v y := by
  obtain ⟨c, u, h1, rfl⟩ := hy
  rw [List.getElem?_map] at hj
  obtain ⟨c', h2, rfl⟩ := map_inv hj
  rw [Nat.zero_add] at h1
  cases h1.symm.trans (List.getElem?_toArray.trans h2)
  exact .str [_] u
theorem only {P : Prop} {a b : Addr} (h : b ∈ [a]) : b = a ∨ P := .inl (List.mem_singleton.mp h)
theorem iter_snd {Q : Value → Shared → Prop} (hs : HS) (e : mkIter σ v = some it) (I : SR σ φ s) (r : VR φ s.heap v x)
    (h : ∀ (o : Obj), ItR φ (s.heap.push o) s.heap.objs.size it → Q (.ref s.heap.objs.size) { s with heap := s.heap.push o }) :
    wpAny (model prog w) A (pyIter x) Q E s := by
  have im : ∀ o, ImmK s.heap (s.heap.push o) := fun o a ob e _ => Heap.get?_push_of_some o e
  cases r with
  | @tupI vs xs t ht l q =>
    have rs : VRs φ s.heap vs xs := .of_get l q
    have hT : s.heap.IsTuple t xs.toArray := ⟨_, ht, rfl, _, rfl⟩
    refine wpAny_pyIter_tuple hT (h _ ?_)
    have hne : t ≠ s.heap.objs.size := Nat.ne_of_lt (Heap.lt_size ht)
    rw [← Option.some.inj e]
    refine .walk (i := 0) (fun A' hA => Walks.tuple hA _ t hne xs.toArray) (fun j h' hst => ?_) ((Nat.zero_add _).trans rs.length) ⟨⟨_, Heap.get?_push_size _ rfl, rfl, rfl⟩, hT.push _⟩ (fun b hb => ?_) fun j v hj y hy => ?_
    · obtain ⟨⟨o, e, c, d⟩, _⟩ := hst
      exact ⟨o, _, e, d, _, c, by decide⟩
    · exact (List.mem_cons.mp hb).imp id fun hb => by rw [List.mem_singleton.mp hb]; exact ⟨_, Heap.get?_push_of_some _ ht, .inl ⟨rfl, _, _, rfl⟩⟩
    · obtain ⟨z, hz, rz⟩ := rs.get hj
      rw [Nat.zero_add, List.getElem?_toArray, hz] at hy
      exact Option.some.inj hy ▸ rz.mono (.refl φ) (im _)
  | @rng a b c ra t u k hr hsm =>
    refine wpAny_pyIter_range hr hsm (h _ ?_)
    rw [← Option.some.inj e]
    refine .walk (i := 0) (fun A' hA => Walks.range hA _ a c (rngLen a b c)) (fun j h' hst => ⟨_, _, hst, rfl, _, rfl, by decide⟩) ((Nat.zero_add _).trans (rngGo_len ..)) ?_ (fun b hb => only hb) fun j v hj y hy => ?_
    · rw [rngLen_size]
      show IsRangeIter _ _ (a + ((0 : Nat) : Int) * c) (((rngLen a b c : Nat) : Int) - ((0 : Nat) : Int)) c
      rw [show a + ((0 : Nat) : Int) * c = a by simp, show ((rngLen a b c : Nat) : Int) - ((0 : Nat) : Int) = ((rngLen a b c : Nat) : Int) by simp]
      exact Heap.get?_push_size s.heap (o := { cls := .type "range_iterator", data := .fields #[rawInt a, rawInt (rngLen a b c : Nat), rawInt c] }) rfl
    · rw [rngGo_get c _ a j v hj]
      obtain ⟨t, rfl⟩ := hy
      rw [Nat.zero_add]
      exact .int _ t
  | str x t =>
    rw [← Option.some.inj e] at h
    cases ha : (S x).cps.all (· < 128)
    · refine wpAny_pyIter_wide ha (h _ ?_)
      exact .walk (i := 0) (fun A' hA => Walks.strWide hA _ (S x) t) (fun j h' ⟨o, e, c, d⟩ => ⟨o, _, e, d, _, c, by decide⟩) ((Nat.zero_add _).trans (List.length_map ..)) ⟨_, Heap.get?_push_size _ rfl, rfl, rfl⟩ (fun b hb => only hb) fun j v hj y hy => sign_vr hj hy
    · refine wpAny_pyIter_ascii ha (h _ ?_)
      exact .walk (i := 0) (fun A' hA => Walks.strAscii hA _ (S x) t) (fun j h' ⟨o, e, c, d⟩ => ⟨o, _, e, d, _, c, by decide⟩) ((Nat.zero_add _).trans (List.length_map ..)) ⟨_, Heap.get?_push_size _ rfl, rfl, rfl⟩ (fun b hb => only hb) fun j v hj y hy => sign_vr hj hy
  | ref ka =>
    rcases atLI_inv e with ⟨l, el, e⟩ | ⟨l, el, e⟩
    · obtain ⟨xs, n, hx, rx⟩ := I.list el ka
      exact wpAny_pyIter_list ⟨_, hx, rfl, _, rfl⟩ (h _ (Option.some.inj e ▸ .seq ka ⟨_, Heap.get?_push_size _ rfl, rfl, rfl⟩))
    · obtain ⟨kvs, hd, rk⟩ := I.obj el ka
      refine wpAny_pyIter_dict (I.noSys hs ka) hd (h _ (Option.some.inj e ▸ .dk ka ⟨_, Heap.get?_push_size _ rfl, rfl, ?_⟩))
      rw [rk.length]; rfl
  | _ => cases e
end
end
section
set_option maxHeartbeats 2000000
set_option backward.match.sparseCases false
open PySem PySem.W PyProof.Rows PySem.Calls
noncomputable def clOf (env : Env) : List (PySem.Str × NameKind) → List (PySem.Str × Addr) → List (PySem.Str × Addr)
  | [], acc => acc
  | (n, k) :: r, acc => if k == .free then clOf env r ((n, (env.cells.lookup n).getD 0) :: acc) else clOf env r acc
theorem closure_eq {env : Env} {scope : Scope} (h : ∀ n, (n, NameKind.free) ∈ scope.names → (env.cells.lookup n).isSome = true) : closureFor scope env = pure (clOf env scope.names []) := by
  unfold closureFor
  suffices H : ∀ (l : List (PySem.Str × NameKind)) (acc : List (PySem.Str × Addr)), (∀ n, (n, NameKind.free) ∈ l → (env.cells.lookup n).isSome = true) →
      (forIn l acc fun (x : PySem.Str × NameKind) (r : List (PySem.Str × Addr)) => (if (x.2 == NameKind.free) = true then do
        let __do_lift ← cellOf env x.1
        pure (ForInStep.yield ((x.1, __do_lift) :: r)) else pure (ForInStep.yield r) : Sem _)) = pure (clOf env l acc) by
    have := H scope.names [] h
    simp only [bind_pure]
    exact this
  intro l
  induction l with
  | nil => intro acc _; rw [List.forIn_nil]; rfl
  | cons x r ih =>
    intro acc hl
    obtain ⟨n, k⟩ := x
    rw [List.forIn_cons]
    unfold clOf
    cases hk : k == NameKind.free with
    | true =>
      have : k = .free := by simpa using hk
      subst this
      have hc := hl n List.mem_cons_self
      obtain ⟨c, hc⟩ := Option.isSome_iff_exists.mp hc
      simp only [hk, if_true, cellOf, hc]
      rw [← ih _ fun n hn => hl n (List.mem_cons_of_mem _ hn)]
      rfl
    | false =>
      simp only [hk, Bool.false_eq_true, if_false]
      rw [← ih _ fun n hn => hl n (List.mem_cons_of_mem _ hn)]
      rfl
theorem cf_look : ∀ (names : List (PySem.Str × NameKind)) (k : Nat) (acc : List (PySem.Str × Addr)) (n : PySem.Str), (n, NameKind.cell) ∉ names → (cellsFrom k names acc).lookup n = acc.lookup n
  | [], _, _, _, _ => rfl
  | (m, kd) :: r, k, acc, n, h => by
    rw [List.mem_cons, not_or] at h
    unfold cellsFrom
    split
    · rename_i hk
      have : kd = .cell := by simpa using hk
      subst this
      rw [cf_look r _ _ n h.2, List.lookup_cons]
      have : n ≠ m := fun e => h.1 (by rw [e])
      rw [beq_eq_false_iff_ne.mpr this]
    · exact cf_look r _ _ n h.2
theorem cf_cell : ∀ (names : List (PySem.Str × NameKind)) (h : Heap) (acc : List (PySem.Str × Addr)) (n : PySem.Str), (names.map (·.1)).Nodup → (n, NameKind.cell) ∈ names →
    ∃ c, (cellsFrom h.objs.size names acc).lookup n = some c ∧ (pushCells h names).IsCell c none ∧ h.objs.size ≤ c
  | [], _, _, _, _, h => by simp at h
  | (m, kd) :: r, h, acc, n, hn, hm => by
    rw [List.map_cons, List.nodup_cons] at hn
    unfold cellsFrom pushCells
    by_cases he : (n, NameKind.cell) = (m, kd)
    · cases he
      simp only [beq_self_eq_true, if_true]
      refine ⟨h.objs.size, ?_, ?_, Nat.le_refl _⟩
      · rw [cf_look r _ _ _ fun hq => hn.1 (List.mem_map.mpr ⟨_, hq, rfl⟩)]
        simp [List.lookup_cons]
      · exact ⟨_, pushCells_keeps r _ _ _ (Heap.get?_push_size _ rfl), rfl⟩
    · have hm' : (n, NameKind.cell) ∈ r := (List.mem_cons.mp hm).resolve_left he
      split
      · obtain ⟨c, h1, h2, h3⟩ := cf_cell r (h.push { cls := .type "cell", data := .cell none }) ((m, h.objs.size) :: acc) n hn.2 hm'
        rw [Heap.size_push] at h1 h3
        exact ⟨c, h1, h2, by omega⟩
      · exact cf_cell r h acc n hn.2 hm'
theorem cf_inj : ∀ (names : List (PySem.Str × NameKind)) (k : Nat) (acc : List (PySem.Str × Addr)), (∀ n c, acc.lookup n = some c → c < k) → (∀ n n' c, acc.lookup n = some c → acc.lookup n' = some c → n = n') →
    ∀ n n' c, (cellsFrom k names acc).lookup n = some c → (cellsFrom k names acc).lookup n' = some c → n = n'
  | [], _, _, _, h => h
  | (m, kd) :: r, k, acc, hlt, h => by
    unfold cellsFrom
    split
    · refine cf_inj r (k + 1) ((m, k) :: acc) (fun n c e => ?_) (fun n n' c e e' => ?_)
      · rw [List.lookup_cons] at e
        split at e
        · cases e; exact Nat.lt_succ_self _
        · exact Nat.lt_succ_of_lt (hlt n c e)
      · rw [List.lookup_cons] at e e'
        split at e <;> split at e'
        · rename_i h1 _ h2; rw [beq_iff_eq] at h1 h2; rw [h1, h2]
        · cases e; exact absurd (hlt n' _ e') (Nat.lt_irrefl _)
        · cases e'; exact absurd (hlt n _ e) (Nat.lt_irrefl _)
        · exact h n n' c e e'
    · exact cf_inj r k acc hlt h
theorem cl_cases {env : Env} : ∀ (names : List (PySem.Str × NameKind)) (acc : List (PySem.Str × Addr)) (n : PySem.Str) (c : Addr), (clOf env names acc).lookup n = some c → ((n, NameKind.free) ∈ names ∧ c = (env.cells.lookup n).getD 0) ∨ acc.lookup n = some c
  | [], _, _, _, h => .inr h
  | (m, kd) :: r, acc, n, c, h => by
    unfold clOf at h
    split at h
    · rename_i hk
      have : kd = .free := by simpa using hk
      subst this
      rcases cl_cases r _ n c h with ⟨h1, h2⟩ | h1
      · exact .inl ⟨List.mem_cons_of_mem _ h1, h2⟩
      · rw [List.lookup_cons] at h1
        split at h1
        · rename_i hb
          cases h1
          rw [beq_iff_eq] at hb
          subst hb
          exact .inl ⟨List.mem_cons_self, rfl⟩
        · exact .inr h1
    · rcases cl_cases r _ n c h with ⟨h1, h2⟩ | h1
      · exact .inl ⟨List.mem_cons_of_mem _ h1, h2⟩
      · exact .inr h1
theorem cl_none {env : Env} : ∀ (names : List (PySem.Str × NameKind)) (acc : List (PySem.Str × Addr)) (n : PySem.Str) (c : Addr), (n, NameKind.free) ∉ names → (clOf env names acc).lookup n = acc.lookup n
  | [], _, _, _, _ => rfl
  | (m, kd) :: r, acc, n, c, h => by
    rw [List.mem_cons, not_or] at h
    unfold clOf
    split
    · rename_i hk
      have : kd = .free := by simpa using hk
      subst this
      rw [cl_none r _ n c h.2, List.lookup_cons, beq_eq_false_iff_ne.mpr fun e => h.1 (by rw [e])]
    · exact cl_none r _ n c h.2
theorem cl_mem {env : Env} : ∀ (names : List (PySem.Str × NameKind)) (acc : List (PySem.Str × Addr)) (n : PySem.Str), (names.map (·.1)).Nodup → (n, NameKind.free) ∈ names → (clOf env names acc).lookup n = some ((env.cells.lookup n).getD 0)
  | [], _, _, _, h => by simp at h
  | (m, kd) :: r, acc, n, hn, hm => by
    rw [List.map_cons, List.nodup_cons] at hn
    unfold clOf
    by_cases he : (n, NameKind.free) = (m, kd)
    · cases he
      simp only [beq_self_eq_true, if_true]
      rw [cl_none r _ _ 0 fun hq => hn.1 (List.mem_map.mpr ⟨_, hq, rfl⟩)]
      simp [List.lookup_cons]
    · have hm' : (n, NameKind.free) ∈ r := (List.mem_cons.mp hm).resolve_left he
      split
      · exact cl_mem r _ n hn.2 hm'
      · exact cl_mem r _ n hn.2 hm'
noncomputable def cEnv (scope : Scope) (env : Env) (L : Addr) : Env :=
  { scope := scope, locals := L, globals := env.globals, cells := cellsFrom (L + 1) scope.names (clOf env scope.names []), qual := env.qual, func := none, code := env.code, frame := env.frame, builtins := env.builtins }
theorem newEnv_snd {M : Model} {A : Around} {E : Value → Shared → Prop} {s : Shared} {scope : Scope} {env : Env} {Q : Env → Shared → Prop}
    (h : Q (cEnv scope env s.heap.objs.size) { s with heap := pushCells (s.heap.push { cls := .type "dict", data := .dict #[] }) scope.names }) :
    wpAny M A (newFunctionEnv scope env.globals (clOf env scope.names []) [] env.qual none .none (some env)) Q E s := by
  simp only [newFunctionEnv, Option.isSome_some, if_true]
  refine wpAny_bind (wpAny_alloc ?_)
  refine wpAny_bind (wpAny_layCells _ (fun name kind cells => by cases hkc : kind == NameKind.cell <;> simp [hkc]) _ _ _ _ ?_)
  rw [show ({ s with heap := s.heap.push { cls := .type "dict", data := .dict #[] } } : Shared).heap.objs.size = s.heap.objs.size + 1 from Heap.size_push ..]
  refine wpAny_bind ?_
  rw [List.forIn_nil]
  exact wpAny_pure (wpAny_pure h)
noncomputable def isK (k : NameKind) : NameKind → Bool := fun k' => decide (k = k')
noncomputable def slotK (csc : Scope) (sc : Scope) (fr : List (Nat × Nat)) (j : Nat) : Bool := match csc.names[j]? with
  | some (n, .local) => (fr.lookup j).isNone
  | some (n, .cell) => (fr.lookup j).isNone
  | some (n, .globalImplicit) => (fr.lookup j).isNone
  | some (n, .free) => match fr.lookup j with
    | some i => match sc.names[i]? with
      | some (n', k') => n' == n && (k' == .cell || k' == .free)
      | none => false
    | none => false
  | _ => false
noncomputable def cwf (sc csc : Scope) (fr : List (Nat × Nat)) (nv X : Nat) : Bool :=
  csc.kind == .function && decide (csc.names.map (·.1)).Nodup && csc.names.all (fun x => !(x.1 == ("__debug__" : PySem.Str)) && !(x.1 == ("__classdict__" : PySem.Str)))
  && (List.range nv).all (slotK csc sc fr) && (csc.names.drop nv).all (fun x => x.2 != .free) && (match csc.names[0]? with | some (n, k) => n == (".0" : PySem.Str) && k == .local | none => false)
  && decide (X < nv) && (match csc.names[X]? with | some (_, .local) => true | some (_, .cell) => true | _ => false)
structure CWF (sc csc : Scope) (fr : List (Nat × Nat)) (nv X : Nat) : Prop where
  fn : csc.kind = .function
  nd : (csc.names.map (·.1)).Nodup
  plain : ∀ x ∈ csc.names, (x.1 == ("__debug__" : PySem.Str)) = false ∧ (x.1 == ("__classdict__" : PySem.Str)) = false
  slot : ∀ j, j < nv → slotK csc sc fr j = true
  free : ∀ (j : Nat) (n : PySem.Str), csc.names[j]? = some (n, .free) → j < nv
  zero : csc.names[0]? = some ((".0" : PySem.Str), .local)
  var : X < nv ∧ ∃ n k, csc.names[X]? = some (n, k) ∧ (k = NameKind.local ∨ k = .cell)
theorem cwf_ok {sc csc : Scope} {fr : List (Nat × Nat)} {nv X : Nat} (h : cwf sc csc fr nv X = true) : CWF sc csc fr nv X := by
  unfold cwf at h
  simp only [Bool.and_eq_true] at h
  obtain ⟨⟨⟨⟨⟨⟨⟨h1, h2⟩, h3⟩, h4⟩, h5⟩, h5z⟩, h6⟩, h7⟩ := h
  refine ⟨by simpa using h1, of_decide_eq_true h2, fun x hx => ?_, fun j hj => ?_, fun j n e => ?_, ?_, of_decide_eq_true h6, ?_⟩
  · have := List.all_eq_true.mp h3 x hx
    simp only [Bool.and_eq_true, Bool.not_eq_true'] at this
    exact this
  · exact List.all_eq_true.mp h4 j (List.mem_range.mpr hj)
  · rcases Nat.lt_or_ge j nv with h | h
    · exact h
    · have : (csc.names.drop nv)[j - nv]? = some (n, .free) := by rw [List.getElem?_drop, ← e]; congr 1; omega
      have := List.all_eq_true.mp h5 _ (List.mem_of_getElem? this)
      simp at this
  · split at h5z
    · rename_i n k e
      simp only [Bool.and_eq_true, beq_iff_eq] at h5z
      rw [e, h5z.1, h5z.2]
    · cases h5z
  · split at h7
    · rename_i n e; exact ⟨n, _, e, .inl rfl⟩
    · rename_i n e; exact ⟨n, _, e, .inr rfl⟩
    · cases h7
theorem frame_len (ρ : Env1) (fr : List (Nat × Nat)) : ∀ nv, (frame ρ fr nv).length = nv
  | 0 => rfl
  | n + 1 => by simp [frame, frame_len ρ fr n]
theorem frame_get (ρ : Env1) (fr : List (Nat × Nat)) : ∀ (nv i : Nat), i < nv → (frame ρ fr nv)[i]? = some (match fr.lookup i with | some j => (ρ[j]?).join | none => none)
  | n + 1, i, h => by
    rw [frame]
    by_cases hi : i < n
    · rw [List.getElem?_append_left (by rw [frame_len]; exact hi), frame_get ρ fr n i hi]
    · have : i = n := by omega
      subst this
      rw [List.getElem?_append_right (by rw [frame_len]; exact Nat.le_refl _), frame_len, Nat.sub_self]; rfl
noncomputable def rel (env : Env) (x : PySem.Str × NameKind) : PySem.Str × NameKind := if (x.2 == NameKind.free && env.scope.kind == .function && env.kindOf x.1 == some .cell) then (x.1, NameKind.cell) else x
theorem relabel_names (csc : Scope) (env : Env) : (relabel csc env).names = csc.names.map (rel env) := rfl
theorem rel_fst (env : Env) (x : PySem.Str × NameKind) : (rel env x).1 = x.1 := by unfold rel; split <;> rfl
theorem rel_or (env : Env) (n : PySem.Str) (k : NameKind) : rel env (n, k) = (n, k) ∨ (k = .free ∧ rel env (n, k) = (n, .cell)) := by
  unfold rel
  split
  · rename_i h
    simp only [Bool.and_eq_true, beq_iff_eq] at h
    exact .inr ⟨h.1.1, rfl⟩
  · exact .inl rfl
theorem rel_glo {env : Env} : ∀ {l : List (PySem.Str × NameKind)} {n : PySem.Str}, l.lookup n = some .globalImplicit → (l.map (rel env)).lookup n = some .globalImplicit
  | [], _, h => by simp at h
  | (m, k) :: r, n, h => by
    rw [List.map_cons]
    rcases rel_or env m k with e | ⟨e1, e⟩ <;> rw [e, List.lookup_cons] <;> rw [List.lookup_cons] at h
    · split
      · rename_i hb; rw [hb] at h; exact h
      · rename_i hb; rw [hb] at h; exact rel_glo h
    · split
      · rename_i hb; rw [hb] at h; subst e1; cases h
      · rename_i hb; rw [hb] at h; exact rel_glo h
section
variable {h0 : Heap} {σ σ' : St} {φ φ' : List Addr} {A : Around} {E : Value → Shared → Prop} {s s' : Shared} {env : Env} {sc csc : Scope} {ρ : Env1} {fr : List (Nat × Nat)} {nv X : Nat}
noncomputable def childEnv (csc : Scope) (env : Env) (L : Addr) : Env := { cEnv csc env L with scope := relabel csc env }
noncomputable def childS (csc : Scope) (s : Shared) : Shared := { s with heap := pushCells (s.heap.push { cls := .type "dict", data := .dict #[] }) csc.names }
theorem free_par (C : CWF sc csc fr nv X) (K : EnvOK sc env h0) (F : FR env ρ φ s) {n : PySem.Str} {j : Nat} (h : csc.names[j]? = some (n, .free)) :
    ∃ i c v, fr.lookup j = some i ∧ env.cells.lookup n = some c ∧ s.heap.IsCell c v ∧ ∀ x, ρ[i]? = some (some x) → ∃ y, v = some y ∧ VR φ s.heap x y := by
  have := C.slot j (C.free j n h)
  unfold slotK at this
  rw [h] at this
  dsimp only at this
  split at this
  · rename_i i ei
    split at this
    · rename_i n' k' en
      simp only [Bool.and_eq_true, beq_iff_eq, Bool.or_eq_true] at this
      obtain ⟨rfl, hk⟩ := this
      have hk' : ∃ k'', env.scope.names[i]? = some (n', k'') ∧ (k'' = .cell ∨ k'' = .free) := by
        rcases K.kk i n' k' en with h | ⟨_, h⟩
        · exact ⟨k', h, hk⟩
        · exact ⟨_, h, .inl rfl⟩
      obtain ⟨k'', h1, h2⟩ := hk'
      obtain ⟨c, v, h3, h4, h5⟩ := F.cel i n' k'' h1 h2
      exact ⟨i, c, v, ei, h3, h4, h5⟩
    · cases this
  · cases this
theorem childNw (csc : Scope) (s : Shared) : Nw s (childS csc s) := nw_keep fun b o e => pushCells_keeps _ _ b o (Heap.get?_push_of_some _ e)
theorem child_ok (C : CWF sc csc fr nv X) (K : EnvOK sc env h0) (I : SR σ φ s) (F : FR env ρ φ s) :
    EnvOK csc (childEnv csc env s.heap.objs.size) s.heap ∧ Own (childEnv csc env s.heap.objs.size) s.heap X ∧ FR (childEnv csc env s.heap.objs.size) (frame ρ fr nv) φ (childS csc s) := by
  have hnm : (childEnv csc env s.heap.objs.size).scope.names = csc.names.map (rel env) := relabel_names csc env
  have hfst : (csc.names.map (rel env)).map (·.1) = csc.names.map (·.1) := by rw [List.map_map]; congr 1; funext x; exact rel_fst env x
  have back : ∀ {i : Nat} {n : PySem.Str} {k : NameKind}, (csc.names.map (rel env))[i]? = some (n, k) → csc.names[i]? = some (n, k) ∨ (k = .cell ∧ csc.names[i]? = some (n, .free)) := fun {i n k} h => by
    rw [List.getElem?_map] at h
    cases q : csc.names[i]? with
    | none => rw [q] at h; cases h
    | some y =>
      rw [q] at h
      obtain ⟨m, k'⟩ := y
      have h' : rel env (m, k') = (n, k) := Option.some.inj h
      rcases rel_or env m k' with e | ⟨e1, e⟩ <;> rw [e] at h'
      · cases h'; exact .inl rfl
      · cases h'; subst e1; exact .inr ⟨rfl, rfl⟩
  have hsz : (s.heap.push { cls := .type "dict", data := .dict #[] }).objs.size = s.heap.objs.size + 1 := Heap.size_push ..
  have newc : ∀ n, (n, NameKind.cell) ∈ csc.names → ∃ c, (childEnv csc env s.heap.objs.size).cells.lookup n = some c ∧ (childS csc s).heap.IsCell c none ∧ s.heap.objs.size < c := fun n hn => by
    obtain ⟨c, h1, h2, h3⟩ := cf_cell csc.names (s.heap.push { cls := .type "dict", data := .dict #[] }) (clOf env csc.names []) n C.nd hn
    rw [hsz] at h1 h3
    exact ⟨c, h1, h2, h3⟩
  have uniq : ∀ {n : PySem.Str} {k k' : NameKind}, (n, k) ∈ csc.names → (n, k') ∈ csc.names → k = k' := fun {n k k'} h h' => by
    obtain ⟨i, hi⟩ := List.mem_iff_getElem?.mp h
    obtain ⟨j, hj⟩ := List.mem_iff_getElem?.mp h'
    have a := lookup_at C.nd hi
    have b := lookup_at C.nd hj
    rw [a] at b; exact Option.some.inj b
  have oldc : ∀ {j : Nat} {n : PySem.Str}, csc.names[j]? = some (n, .free) → ∃ i c v, fr.lookup j = some i ∧ (childEnv csc env s.heap.objs.size).cells.lookup n = some c ∧ s.heap.IsCell c v ∧ ∀ x, ρ[i]? = some (some x) → ∃ y, v = some y ∧ VR φ s.heap x y := fun {j n} h => by
    obtain ⟨i, c, v, h1, h2, h3, h4⟩ := free_par C K F h
    refine ⟨i, c, v, h1, ?_, h3, h4⟩
    have hm := List.mem_of_getElem? h
    show (cellsFrom _ csc.names _).lookup n = some c
    rw [cf_look _ _ _ _ (fun hq => by have := uniq hm hq; cases this), cl_mem _ _ _ C.nd hm, h2]; rfl
  have clb : ∀ n c, (clOf env csc.names []).lookup n = some c → env.cells.lookup n = some c ∧ c < s.heap.objs.size := fun n c h => by
    rcases cl_cases _ _ _ _ h with ⟨h1, h2⟩ | h1
    · obtain ⟨j, hj⟩ := List.mem_iff_getElem?.mp h1
      obtain ⟨i, c', v, _, h3, h4, _⟩ := free_par C K F hj
      rw [h3] at h2
      have : c = c' := h2
      subst this
      exact ⟨h3, h4.lt⟩
    · simp at h1
  refine ⟨⟨?_, ?_, ?_, C.fn, C.nd, C.plain, K.globals, K.builtins, new_addr _, ?_⟩, ?_, ⟨?_, ?_, ?_, ?_⟩⟩
  · rw [hnm]; exact hfst
  · intro i n k h
    rw [hnm, List.getElem?_map, h]
    rcases rel_or env n k with e | ⟨e1, e⟩
    · left; rw [Option.map_some, e]
    · right; exact ⟨e1, by rw [Option.map_some, e]⟩
  · intro n h
    show (relabel csc env).names.lookup n = _
    rw [relabel_names]
    exact rel_glo h
  · exact cf_inj _ _ _ (fun n c h => Nat.lt_succ_of_lt (clb n c h).2) fun n n' c h h' => K.apart n n' c (clb n c h).1 (clb n' c h').1
  · intro n k h
    rw [hnm] at h
    obtain ⟨_, m, k', e, hk'⟩ := C.var
    refine ⟨fun q => ?_, fun hkk => ?_⟩
    · subst q
      rcases back h with h1 | ⟨h1, _⟩
      · rw [e] at h1; cases h1; rcases hk' with q | q <;> cases q
      · cases h1
    rcases back h with h1 | ⟨rfl, h1⟩
    · rw [e] at h1; cases h1
      rcases hk' with rfl | rfl
      · rcases hkk with hkk | hkk <;> cases hkk
      · refine ⟨rfl, fun c hc => ?_⟩
        obtain ⟨c', h2, _, h3⟩ := newc _ (List.mem_of_getElem? e)
        rw [hc] at h2; cases h2
        cases q : s.heap.get? c with
        | none => rfl
        | some o => exact absurd (Heap.lt_size q) (Nat.not_lt.mpr (Nat.le_of_lt h3))
    · rw [e] at h1; cases h1; rcases hk' with hk' | hk' <;> cases hk'
  · intro i hi
    rw [frame_len] at hi
    rw [hnm]
    have := C.slot i hi
    unfold slotK at this
    cases q : csc.names[i]? with
    | none => rw [q] at this; cases this
    | some y =>
      obtain ⟨n, k⟩ := y
      rw [q] at this
      have hk : k = .local ∨ (k = .cell ∨ k = .free) ∨ (k = .globalImplicit ∧ (frame ρ fr nv)[i]? = some none ∧ CompS (childEnv csc env s.heap.objs.size)) := by
        cases k with
        | globalImplicit =>
          refine .inr (.inr ⟨rfl, ?_, ?_⟩)
          · rw [frame_get _ _ _ _ hi]
            cases q2 : fr.lookup i with
            | none => rfl
            | some j => rw [q2] at this; cases this
          · refine ⟨.local, ?_⟩
            rw [hnm, List.getElem?_map, C.zero, Option.map_some]
            rcases rel_or env ".0" .local with e | ⟨e1, _⟩
            · rw [e]
            · cases e1
        | «local» => exact .inl rfl
        | cell => exact .inr (.inl (.inl rfl))
        | free => exact .inr (.inl (.inr rfl))
        | _ => simp at this
      rw [List.getElem?_map, q]
      rcases rel_or env n k with e | ⟨e1, e⟩
      · exact ⟨n, k, by rw [Option.map_some, e], hk⟩
      · exact ⟨n, .cell, by rw [Option.map_some, e], .inr (.inl (.inl rfl))⟩
  · refine ⟨fun _ => none, (Heap.Ns.new s.heap (.type "dict")).keeps (pushCells_keeps _ _), fun i n x h hx => ?_⟩
    rw [hnm] at h
    have hi : i < nv := by have := (List.getElem?_eq_some_iff.mp hx).1; rwa [frame_len] at this
    rcases back h with h1 | ⟨h2, _⟩
    · have := C.slot i hi
      unfold slotK at this
      rw [h1] at this
      rw [frame_get _ _ _ _ hi] at hx
      cases q : fr.lookup i with
      | none => rw [q] at hx; cases hx
      | some j => rw [q] at this; cases this
    · cases h2
  · intro i n k h hk
    rw [hnm] at h
    have fromOld : csc.names[i]? = some (n, .free) → ∃ c v, (childEnv csc env s.heap.objs.size).cells.lookup n = some c ∧ (childS csc s).heap.IsCell c v ∧ ∀ x, (frame ρ fr nv)[i]? = some (some x) → ∃ y, v = some y ∧ VR φ (childS csc s).heap x y := fun h1 => by
      obtain ⟨j, c, v, e1, e2, e3, e4⟩ := oldc h1
      have hi := C.free i n h1
      refine ⟨c, v, e2, e3.keeps fun b o e => (childNw csc s).keep b o e id, fun x hx => ?_⟩
      rw [frame_get _ _ _ _ hi, e1] at hx
      have hx' : (ρ[j]?).join = some x := Option.some.inj hx
      have hx'' : ρ[j]? = some (some x) := by
        cases q : ρ[j]? with
        | none => rw [q] at hx'; cases hx'
        | some y => rw [q] at hx'; exact congrArg some hx'
      obtain ⟨y, h5, h6⟩ := e4 x hx''
      exact ⟨y, h5, h6.mono (.refl φ) (childNw csc s).imm⟩
    rcases back h with h1 | ⟨_, h1⟩
    · rcases hk with rfl | rfl
      · obtain ⟨c, h2, h3, h4⟩ := newc n (List.mem_of_getElem? h1)
        refine ⟨c, none, h2, h3, fun x hx => ?_⟩
        have hi : i < nv := by have := (List.getElem?_eq_some_iff.mp hx).1; rwa [frame_len] at this
        have := C.slot i hi
        unfold slotK at this
        rw [h1] at this
        rw [frame_get _ _ _ _ hi] at hx
        cases q : fr.lookup i with
        | none => rw [q] at hx; cases hx
        | some j => rw [q] at this; cases this
      · exact fromOld h1
    · exact fromOld h1
  · intro h
    exact absurd (I.lt h) (Nat.lt_irrefl _)
end
end
section
set_option maxHeartbeats 2000000
set_option backward.match.sparseCases false
open PySem PySem.W PyProof.Rows PySem.Calls
set_option genSizeOf false
structure RoomA (A : Around) (d : Nat) : Prop where
  hh : A.handled = none
  dep : A.depth + d < recursionLimit
  un : A.units + 10 * d + 110 < cLine
theorem RoomA.u {A : Around} {d : Nat} (R : RoomA A d) : A.units + 100 < cLine := by have := R.un; omega
theorem RoomA.le {A : Around} {d d' : Nat} (R : RoomA A d) (h : d' ≤ d) : RoomA A d' := ⟨R.hh, by have := R.dep; omega, by have := R.un; omega⟩
noncomputable def FSnd (d : Nat) (Ff : List T → Option (T × Nat)) (fa : Addr) : Prop :=
  ∀ {A : Around} {vs : List V} {xs : List Value} {σ : St} {φ : List Addr} {s : Shared} {v : V} {σ' : St} {Q E : Value → Shared → Prop}, RoomA A d → SR σ φ s → VRs φ s.heap vs xs → callT Ff vs σ = some (v, σ') → PV φ s v σ' Q → wpAny (model prog w) A (call (.ref fa) xs) Q E s
structure GK (G : GX) (d : Nat) : Prop where
  sys : HS
  g : hb.Ns mainGlobals mg
  b : hb.Ns builtinsNs mb
  gints : ∀ (g : Nat) (n : PySem.Str) (i : Int), gnN[g]? = some n → G.gints[g]? = some i → ∃ t, mg n = some (.int i t)
  bi : ∀ b, mg (biName b) = none ∧ mb (biName b) = some (biVal b)
  sum : mg "sum" = none ∧ mb "sum" = some (.builtin "sum")
  flags : ∃ fa kvs, mg flN = some (.ref fa) ∧ (fa == sysModules) = false ∧ hb.DictOf (intKind prog w) fa kvs ∧ ∀ i, match getK G.flags i with
    | none => valueAt kvs i = none
    | some s => ∃ t, valueAt kvs i = some (.str (S s) t)
  ro : RO G.ro
  fns : ∀ (f : Nat) (n : PySem.Str) (ts : List T) (r : T × Nat), fnN[f]? = some n → G.F f ts = some r → ∃ fa o fd, mg n = some (.ref fa) ∧ hb.get? fa = some o ∧ o.data = .func fd ∧ FSnd d (G.F f) fa
noncomputable def kX : ME := fun _ _ => none
noncomputable def tX : MT := fun _ _ => none
noncomputable def gk (sc : Scope) (n : PySem.Str) : Bool := sc.names.lookup n == some .globalImplicit && !(n == ("__debug__" : PySem.Str))
noncomputable def idxN {α : Type} (p : α → Bool) : List α → Nat
  | [] => 0
  | a :: r => match p a with
    | true => 0
    | false => idxN p r + 1
noncomputable def nIx (sc : Scope) (n : PySem.Str) : Nat := idxN (fun x => x == n) (sc.names.map (·.1))
noncomputable def lIx (l : List PySem.Str) (n : PySem.Str) : Nat := idxN (fun x => x == n) l
noncomputable def okX : Expr → Bool
  | .Starred _ _ | .Set _ _ _ | .Slice _ _ _ _ => false
  | _ => true
noncomputable def okXs (xs : List Expr) : Bool := xs.all okX
noncomputable def okB : Expr → Bool
  | .Call _ [] _ _ => false
  | _ => true
structure CC where
  e : Scope → Expr → ME
  t : Scope → Expr → MT
noncomputable def onB (b : Bool) (m m' : ME) : ME := match b with
  | true => m
  | false => m'
noncomputable def onT (b : Bool) (m : ME) : ME := onB b m kX
noncomputable def onO {α β : Type} (o : Option α) (f : α → β) (m : β) : β := match o with
  | some a => f a
  | none => m
noncomputable def nmP : Expr → Option (PySem.Str × Pos)
  | .Name n p => some (n, p)
  | _ => none
noncomputable def cnP : Expr → Option (Const × Option Nat × Pos)
  | .Constant v j p => some (v, some j, p)
  | _ => none
noncomputable def clP : Expr → Option (Expr × List Expr × List Keyword × Pos)
  | .Call f xs kw r => some (f, xs, kw, r)
  | _ => none
noncomputable def atP : Expr → Option (Expr × PySem.Str × Pos)
  | .Attribute a m q => some (a, m, q)
  | _ => none
noncomputable def slP : Expr → Option (Option Expr × Option Expr × Option Expr × Pos)
  | .Slice a b c q => some (a, b, c, q)
  | _ => none
noncomputable def sbP : Expr → Option (Expr × Expr × Pos)
  | .Subscript a i q => some (a, i, q)
  | _ => none
noncomputable def tpP : Expr → Option (List Expr × Nat × Pos)
  | .Tuple xs j q => some (xs, j, q)
  | _ => none
noncomputable def one {α : Type} : List α → Option α
  | [a] => some a
  | _ => none
noncomputable def two {α : Type} : List α → Option (α × α)
  | [a, b] => some (a, b)
  | _ => none
noncomputable def ifO {α : Type} (b : Bool) (a : α) : Option α := match b with
  | true => some a
  | false => none
noncomputable def bind {α β : Type} (o : Option α) (f : α → Option β) : Option β := onO o f none
noncomputable def hasO {α : Type} (o : Option α) (f : α → Bool) : Bool := onO o f false
section
variable (G : GX) (ds : Bool) (c : CC)
noncomputable def cConst : Const → ME
  | .none => kV .none
  | .bool b => kV (.bool b)
  | .int i => kV (.int i)
  | .str s => kV (.str s.cps.toList)
  | _ => kX
noncomputable def cName (sc : Scope) (n : PySem.Str) : ME := onB (gk sc n) (onT (gnN.contains n) (kG G (lIx gnN n))) (kVar (nIx sc n))
noncomputable def cEs (sc : Scope) : List Expr → MEs
  | [] => kNil
  | x :: xs => kCons (c.e sc x) (cEs sc xs)
noncomputable def cTs (sc : Scope) (b : Bool) : List Expr → MT
  | [] => tNil b
  | x :: xs => tCons b (c.t sc x) (cTs sc b xs)
noncomputable def noC : Const → Bool
  | .none => true
  | _ => false
noncomputable def isNone (x : Expr) : Bool := hasO (cnP x) fun q => noC q.1
noncomputable def cOr (sc : Scope) (op : BoolOp) (xs : List Expr) : ME := match op with
  | .Or => onO (two xs) (fun q => onT (isNone q.2) (kOrN (c.e sc q.1))) kX
  | _ => kX
noncomputable def cSlice (sc : Scope) (a : Expr) (l u st : Option Expr) : ME := match st with
  | none => (match l, u with
    | some l, none => k2 fSlL (c.e sc a) (c.e sc l)
    | none, some u => k2 (fSlR G) (c.e sc a) (c.e sc u)
    | some l, some u => k3 fSlB (c.e sc a) (c.e sc l) (c.e sc u)
    | none, none => kX)
  | some _ => kX
noncomputable def cSub (sc : Scope) (a i : Expr) : ME := onO (slP i) (fun q => cSlice G c sc a q.1 q.2.1 q.2.2.1) (k2 fIdx (c.e sc a) (c.e sc i))
noncomputable def biL (k : Nat) : List (PySem.Str × BI) := [("len", .len), ("range", .range), ("list", .list), ("min", match k with
  | 2 => .min2
  | _ => .minL), ("iter", .iter), ("next", .next), ("ord", .ord), ("chr", .chr), ("hex", .hex)]
noncomputable def biOf (n : PySem.Str) (k : Nat) : Option BI := (biL k).lookup n
noncomputable def miL : List (PySem.Str × MI) := [("append", .append), ("join", .join), ("lower", .lower), ("get", .get)]
noncomputable def miOf (n : PySem.Str) : Option MI := miL.lookup n
noncomputable def valsOf (x : Expr) : Option Expr := bind (clP x) fun c => bind (atP c.1) fun t => ifO (c.2.1.isEmpty && c.2.2.1.isEmpty && (t.2.1 == ("values" : PySem.Str) && t.2.2.endLine == c.2.2.2.line && okB t.1)) t.1
noncomputable def cSum (sc : Scope) (xs : List Expr) : ME := onO (one xs) (fun x => onO (valsOf x) (fun a => kSumVals (c.e sc a)) kX) kX
noncomputable def cCallN (sc : Scope) (n : PySem.Str) (xs : List Expr) : ME := onT (gk sc n && !xs.isEmpty && okXs xs) (onB (fnN.contains n) (kEs (callF G (lIx fnN n)) (cEs c sc xs))
  (onO (biOf n xs.length) (fun b => kEs (biV b) (cEs c sc xs)) (onT (n == ("sum" : PySem.Str)) (cSum c sc xs))))
noncomputable def isFl (sc : Scope) (x : Expr) : Bool := hasO (nmP x) fun q => q.1 == flN && gk sc flN
noncomputable def cFlag (sc : Scope) (m : PySem.Str) (xs : List Expr) : ME := onO (two xs) (fun q => onT (m == ("get" : PySem.Str) && okX q.1 && okX q.2) (kFlag G (c.e sc q.1) (c.e sc q.2))) kX
noncomputable def cMeth (sc : Scope) (o : Expr) (m : PySem.Str) (xs : List Expr) : ME := onB (isFl sc o) (cFlag G c sc m xs) (onO (miOf m) (fun mi => onT (decide (xs.length < 30) && okXs xs && okB o) (kMeth mi (c.e sc o) (cEs c sc xs))) kX)
noncomputable def cCall (sc : Scope) (f : Expr) (xs : List Expr) (p : Pos) : ME := onO (nmP f) (fun q => cCallN G c sc q.1 xs) (onO (atP f) (fun q => onT (q.2.2.endLine == p.line) (cMeth G c sc q.1 q.2.1 xs)) kX)
noncomputable def frOf (sc csc : Scope) : List (Nat × Nat) := (csc.names.zipIdx.filter fun x => x.1.2 == .free).map fun x => (x.2, nIx sc x.1.1)
noncomputable def lastOwn : Nat → Nat → List (PySem.Str × NameKind) → Nat
  | _, m, [] => m
  | i, m, x :: r => lastOwn (i + 1) (match x.2 == .globalImplicit with
    | true => m
    | false => i + 1) r
noncomputable def nvOf (csc : Scope) : Nat := lastOwn 0 0 csc.names
noncomputable def cwf1 (sc csc : Scope) (X : PySem.Str) : Bool := cwf sc csc (frOf sc csc) (nvOf csc) (nIx csc X)
noncomputable def gnm (g : Comprehension) : Option PySem.Str := bind (nmP g.target) fun q => ifO (decide (g.is_async = 0)) q.1
noncomputable def cLc1 (sc csc : Scope) (elt : Expr) (g : Comprehension) : ME := onO (gnm g) (fun X => onT (cwf1 sc csc X) (kLcomp (frOf sc csc) (nvOf csc) (nIx csc X) (c.e sc g.iter) (cTs c csc true g.ifs) (c.e csc elt))) kX
noncomputable def cLc2 (sc csc : Scope) (elt : Expr) (g g2 : Comprehension) : ME := onO (gnm g) (fun X => onO (gnm g2) (fun Y => onT (g.ifs.isEmpty && cwf1 sc csc X && cwf1 sc csc Y && decide (nIx csc X ≠ nIx csc Y) && okX g2.iter)
      (kLcomp2 (frOf sc csc) (nvOf csc) (nIx csc X) (c.e sc g.iter) (nIx csc Y) (c.e csc g2.iter) (cTs c csc true g2.ifs) (c.e csc elt))) kX) kX
noncomputable def cLc (sc csc : Scope) (elt : Expr) (gs : List Comprehension) : ME := onO (one gs) (cLc1 c sc csc elt) (onO (two gs) (fun q => cLc2 c sc csc elt q.1 q.2) kX)
noncomputable def cDc (sc csc : Scope) (k v : Expr) (gs : List Comprehension) : ME := onO (one gs) (fun g => onO (gnm g) (fun X => onT (cwf1 sc csc X) (kDcomp (frOf sc csc) (nvOf csc) (nIx csc X) (c.e sc g.iter) (cTs c csc true g.ifs) (c.e csc k) (c.e csc v))) kX) kX
noncomputable def cCmp (sc : Scope) (a : Expr) (ops : List CmpOp) (bs : List Expr) : ME := onO (one ops) (fun op => onO (one bs) (fun b => k2 (fCmp op) (c.e sc a) (c.e sc b)) kX) kX
noncomputable def upE (sc : Scope) (x : Expr) : ME := match x with
  | .Constant v _ _ => cConst v
  | .Name n _ => cName G sc n
  | .BinOp a op b _ => k2 (binV op) (c.e sc a) (c.e sc b)
  | .UnaryOp op a _ => (match op with
    | .USub => kNeg (c.e sc a)
    | _ => kX)
  | .BoolOp op xs _ => cOr c sc op xs
  | .Compare a ops bs _ => cCmp c sc a ops bs
  | .IfExp t a b _ => kIte (c.t sc t) (c.e sc a) (c.e sc b)
  | .Subscript a i _ => cSub G c sc a i
  | .List xs _ => kEs fList (cEs c sc xs)
  | .Tuple xs _ _ => kEs fTup (cEs c sc xs)
  | .Dict ks vs _ => onT (ks.isEmpty && vs.isEmpty) (kDict0 ds)
  | .Call f xs kws p => onT kws.isEmpty (cCall G c sc f xs p)
  | .ListComp elt gs csc _ => cLc c sc csc elt gs
  | .DictComp k v gs csc _ => cDc c sc csc k v gs
  | _ => kX
noncomputable def cCmpT (sc : Scope) (a : Expr) (ops : List CmpOp) (bs : List Expr) : MT := onO (one ops) (fun op => onO (one bs) (fun b => tCmp op (c.e sc a) (c.e sc b)) tX)
  (onO (two ops) (fun o => onO (two bs) (fun b => onO (ifO (okX b.2) ()) (fun _ => tCmp2 o.1 o.2 (c.e sc a) (c.e sc b.1) (c.e sc b.2)) tX) tX) tX)
noncomputable def upT (sc : Scope) (x : Expr) : MT := match x with
  | .UnaryOp op a _ => (match op with
    | .Not => tNot (c.t sc a)
    | _ => tX)
  | .BoolOp op xs _ => (match op with
    | .And => cTs c sc true xs
    | .Or => cTs c sc false xs)
  | .Compare a ops bs _ => cCmpT c sc a ops bs
  | .BinOp .. | .Name .. | .Subscript .. | .Call .. => tV (upE G ds c sc x)
  | _ => tX
end
noncomputable def cx (G : GX) (ds : Bool) : Nat → CC
  | 0 => ⟨fun _ _ => kX, fun _ _ => tX⟩
  | n + 1 => ⟨upE G ds (cx G ds n), upT G ds (cx G ds n)⟩
end
section
set_option maxHeartbeats 2000000
set_option backward.match.sparseCases false
open PySem PySem.W PyProof.Rows PySem.Calls
noncomputable def SndE (A : Around) (sc : Scope) (x : Expr) (m : ME) : Prop := ∀ {env : Env} {h0 : Heap} {ρ : Env1} {σ : St} {φ : List Addr} {s : Shared} {v : V} {σ' : St} {Q E : Value → Shared → Prop},
  EnvOK sc env h0 → SR σ φ s → FR env ρ φ s → m ρ σ = some (v, σ') → PV φ s v σ' Q → wpAny (model prog w) A (eval x env) Q E s
noncomputable def PN (φ : List Addr) (s : Shared) (σ' : St) (P : Shared → Prop) : Prop := ∀ s' φ', SR σ' φ' s' → Stp φ s φ' s' → P s'
noncomputable def SndT (A : Around) (sc : Scope) (x : Expr) (m : MT) : Prop := ∀ {env : Env} {h0 : Heap} {ρ : Env1} {σ : St} {φ : List Addr} {s : Shared} {b : Bool} {σ' : St} {Q : Bool → Shared → Prop} {E : Value → Shared → Prop},
  EnvOK sc env h0 → SR σ φ s → FR env ρ φ s → m ρ σ = some (b, σ') → PN φ s σ' (Q b) → wpAny (model prog w) A (PySem.isTrue x env (eval x env)) Q E s
noncomputable def PVs (φ : List Addr) (s : Shared) (vs : List V) (σ' : St) (Q : List Value → Shared → Prop) : Prop := ∀ xs s' φ', VRs φ' s'.heap vs xs → SR σ' φ' s' → Stp φ s φ' s' → Q xs s'
noncomputable def SndEs (A : Around) (sc : Scope) (xs : List Expr) (m : MEs) : Prop := ∀ {env : Env} {h0 : Heap} {pos : Pos} {ρ : Env1} {σ : St} {φ : List Addr} {s : Shared} {vs : List V} {σ' : St} {Q : List Value → Shared → Prop} {E : Value → Shared → Prop},
  EnvOK sc env h0 → SR σ φ s → FR env ρ φ s → m ρ σ = some (vs, σ') → PVs φ s vs σ' Q → wpAny (model prog w) A (spliced (backTo pos (starEach xs env))) Q E s
noncomputable def Okd (x : Expr) (m : ME) : Prop := ∀ {ρ σ r}, m ρ σ = some r → okX x = true
section
variable {h0 : Heap} {G : GX} {A : Around} {d n : Nat} {E : Value → Shared → Prop} {env : Env} {sc csc : Scope} {σ σ' σ1 : St} {φ φ' : List Addr} {s s' : Shared} {ρ : Env1} {v : V} {a b c x : Expr} {xs : List Expr} {m ma mb' mc : ME} {p : Pos}
theorem thn_case {α β : Type} {a : Option (α × St)} {f : α → St → Option β} {r : β} (e : thn a f = some r) {P : Prop} (k : ∀ x σ, a = some (x, σ) → f x σ = some r → P) : P := by
  cases a with
  | none => cases e
  | some q => exact k q.1 q.2 rfl e
theorem thn_ok {α β : Type} {a : Option (α × St)} {f : α → St → Option β} {r : β} (e : thn a f = some r) : ∃ q, a = some q := thn_case e fun x σ e _ => ⟨_, e⟩
theorem PN.after {P : Shared → Prop} (h : PN φ s σ' P) (t : Stp φ s φ' s') : PN φ' s' σ' P := fun s2 φ2 I t2 => h s2 φ2 I (t.trans t2)
theorem PN.same {P : Shared → Prop} (h : PN φ s σ P) (I : SR σ φ s) : P s := h s φ I (.refl φ s)
theorem PVs.after {vs : List V} {Q : List Value → Shared → Prop} (h : PVs φ s vs σ' Q) (t : Stp φ s φ' s') : PVs φ' s' vs σ' Q := fun xs s2 φ2 r I t2 => h xs s2 φ2 r I (t.trans t2)
theorem star_ok (h : okX x = true) {rest : List Expr} : starEach (x :: rest) env = (false, eval x env) :: starEach rest env := by
  cases x <;> first | rfl | cases h
theorem marks_ok {op : CmpOp} (h : okX x = true) : behindInMarks op x = false := by
  cases x <;> first | rfl | cases h
theorem sub_ok {y z : Value} (h : okX x = true) : subscripted x false y z = operate [y, z] (getItem y z) := by
  cases x <;> first | rfl | cases h
theorem fold_ok {y : Value} (h : okX x = true) : foldedSetIterable x env y = pure y := by
  cases x <;> first | rfl | cases h
theorem upE_ok {ds : Bool} {c : CC} : Okd x (upE G ds c sc x) := fun e => by
  cases x <;> first | rfl | cases e
theorem snd_kX : SndE A sc x kX := fun _ _ _ e _ => nomatch e
theorem sndT_tX : SndT A sc x tX := fun _ _ _ e _ => nomatch e
theorem snd_const {k : Const} {j : Nat} : SndE A sc (.Constant k j p) (cConst k) := fun K I F e h => by
  cases k with
  | none => exact wpAny_Constant_none ((h.of e).same I .none)
  | bool b => exact wpAny_Constant_bool ((h.of e).same I (.bool b))
  | int i => exact wpAny_Constant_int ((h.of e).int I _ _)
  | str x => exact PySem.wpAny_Constant_str ((h.of e).str I _ _)
  | _ => cases e
theorem not_tt {b : Bool} (h : (!b) = true) : b = false := by cases b <;> first | rfl | cases h
theorem glo_snd {n : PySem.Str} {x : Value} {Q : Value → Shared → Prop} (g : GK G d) (gk' : gk sc n = true) (K : EnvOK sc env h0) (I : SR σ φ s) (hv : mg n = some x) (h : Q x s) : wpAny (model prog w) A (eval (.Name n p) env) Q E s := by
  have q := Bool.and_eq_true_iff.mp gk'
  refine Name_function_global K.fn (K.glo n (beq_iff_eq.mp q.1)) (loadGlobal_global ?_ hv h) (not_tt q.2)
  rw [K.globals]
  exact g.g.at' fun o e => I.keep _ _ e
theorem blt_snd {n : PySem.Str} {x : Value} {Q : Value → Shared → Prop} (g : GK G d) (gk' : gk sc n = true) (K : EnvOK sc env h0) (I : SR σ φ s) (hm : mg n = none ∧ mb n = some x) (h : Q x s) : wpAny (model prog w) A (eval (.Name n p) env) Q E s := by
  have q := Bool.and_eq_true_iff.mp gk'
  refine Name_function_global K.fn (K.glo n (beq_iff_eq.mp q.1)) (loadGlobal_builtin (mg := mg) (mb := mb) ?_ hm.1 ?_ hm.2 h) (not_tt q.2)
  · rw [K.globals]; exact g.g.at' fun o e => I.keep _ _ e
  · rw [K.builtins]; exact g.b.at' fun o e => I.keep _ _ e
theorem idxN_get {α : Type} {q : α → Bool} {l : List α} (h : idxN q l < l.length) : ∃ y, l[idxN q l]? = some y ∧ q y = true := by
  induction l with
  | nil => exact absurd h (Nat.not_lt_zero _)
  | cons a r ih =>
    unfold idxN at h ⊢
    cases e : q a with
    | true => exact ⟨a, rfl, e⟩
    | false => rw [e] at h; exact ih (Nat.lt_of_succ_lt_succ h)
theorem nIx_at {n : PySem.Str} (h : nIx sc n < sc.names.length) : At sc (nIx sc n) n := by
  obtain ⟨y, e, q⟩ := idxN_get (l := (sc.names.map Prod.fst : List PySem.Str)) (q := fun x => x == n) (show nIx sc n < (sc.names.map (·.1)).length from by rw [List.length_map]; exact h)
  exact e.trans (congrArg some (beq_iff_eq.mp q))
theorem lIx_get {l : List PySem.Str} {n : PySem.Str} (h : l.contains n = true) : l[lIx l n]? = some n := by
  have hl : lIx l n < l.length := by
    have hm : n ∈ l := List.contains_iff_mem.mp h
    clear h
    unfold lIx
    induction l with
    | nil => exact absurd hm List.not_mem_nil
    | cons a r ih =>
      unfold idxN
      cases e : a == n with
      | true => exact Nat.succ_pos _
      | false => exact Nat.succ_lt_succ (ih ((List.mem_cons.mp hm).resolve_left fun q => by rw [q, beq_self_eq_true] at e; cases e))
  obtain ⟨y, e, q⟩ := idxN_get (l := l) hl
  exact e.trans (congrArg some (beq_iff_eq.mp q))
theorem nIx_in {n : PySem.Str} (K : EnvOK sc env h0) (F : FR env ρ φ s) {i : Nat} (h : i < ρ.length) (q : i = nIx sc n) : At sc i n := by
  subst q
  obtain ⟨n2, k, hn, _⟩ := F.kinds _ h
  exact nIx_at (by have := lt_of_get (K.at_ hn); rwa [List.length_map] at this)
theorem kVar_inv {i : Nat} (e : kVar i ρ σ = some (v, σ')) : ρ[i]? = some (some v) ∧ σ = σ' := by
  unfold kVar at e
  cases e1 : ρ[i]? with
  | none => rw [e1] at e; cases e
  | some o =>
    rw [e1] at e
    cases o with
    | none => cases e
    | some u => cases e; exact ⟨rfl, rfl⟩
theorem snd_name (g : GK G d) {n : PySem.Str} : SndE A sc (.Name n p) (cName G sc n) := fun K I F e h => by
  unfold cName at e
  cases q : gk sc n with
  | true =>
    rw [q] at e
    cases q2 : gnN.contains n with
    | true =>
      rw [q2] at e
      obtain ⟨i, e1, e2⟩ := map_inv e
      obtain ⟨t, ht⟩ := g.gints _ n i (lIx_get q2) e1
      exact glo_snd g q K I ht ((h.of (congrArg some e2)).same I (.int i t))
    | false => rw [q2] at e; cases e
  | false =>
    rw [q] at e
    obtain ⟨e1, e2⟩ := kVar_inv e
    subst e2
    exact load_snd K F (nIx_in K F (lt_of_get e1) rfl) e1 fun y r => h.same I r
theorem snd_bin {op : Operator} (Ha : SndE A sc a ma) (Hb : SndE A sc b mb') : SndE A sc (.BinOp a op b p) (k2 (binV op) ma mb') := fun K I F e h =>
  thn_case e fun x σ1 e1 e => thn_case e fun y σ2 e2 e =>
    wpAny_BinOp (Ha K I F e1 fun z1 s1 φ1 r1 I1 t1 => Hb K I1 (F.stp I t1) e2 fun z2 s2 φ2 r2 I2 t2 => binV_snd e I2 (r1.stp I1 t2) r2 (h.after (t1.trans t2)))
theorem snd_neg (Ha : SndE A sc a ma) : SndE A sc (.UnaryOp .USub a p) (kNeg ma) := fun K I F e h =>
  thn_case e fun x σ1 e1 e => wpAny_UnaryOp (Ha K I F e1 fun z1 s1 φ1 r1 I1 t1 => int1_case r1 e fun i t e => neg_int (((h.after t1).of e).int I1 _ _))
theorem snd_orN {j : Nat} {q : Pos} (Ha : SndE A sc a ma) : SndE A sc (.BoolOp .Or [a, .Constant .none j q] p) (kOrN ma) := fun K I F e h =>
  thn_case e fun x σ1 e1 e => wpAny_Or2 (Ha K I F e1 fun z1 s1 φ1 r1 I1 t1 => int1_case r1 e fun i t e => PySem.P.truthy_int (by
    have h := (h.after t1).of e
    by_cases hi : i = 0
    · subst hi
      rw [if_pos rfl] at h
      rw [if_neg (by decide)]
      exact wpAny_Constant_none (h.same I1 .none)
    · rw [if_neg hi] at h
      rw [if_pos (bne_iff_ne.mpr hi)]
      exact h.same I1 (.int i t)))
theorem snd_cmp {op : CmpOp} (g : GK G d) (R : RoomA A d) (Ha : SndE A sc a ma) (Hb : SndE A sc b mb') (ok : Okd b mb') : SndE A sc (.Compare a [op] [b] p) (k2 (fCmp op) ma mb') := fun K I F e h =>
  thn_case e fun x σ1 e1 e => thn_case e fun y σ2 e2 e => Exists.elim (map_inv e) fun r q =>
    wpAny_Compare1 (Ha K I F e1 fun z1 s1 φ1 r1 I1 t1 => Hb K I1 (F.stp I t1) e2 fun z2 s2 φ2 r2 I2 t2 =>
      cmpV_snd q.1 I2 g.sys R.u (r1.stp I1 t2) r2 (((h.after (t1.trans t2)).of (congrArg some q.2)).same I2 (.bool r))) (marks_ok (ok e2))
theorem sndT_cmp {op : CmpOp} (g : GK G d) (R : RoomA A d) (Ha : SndE A sc a ma) (Hb : SndE A sc b mb') (ok : Okd b mb') : SndT A sc (.Compare a [op] [b] p) (tCmp op ma mb') := fun K I F e h =>
  thn_case e fun x σ1 e1 e => thn_case e fun y σ2 e2 e => Exists.elim (map_inv e) fun r q =>
    wpAny_isTrue_Compare1 (Ha K I F e1 fun z1 s1 φ1 r1 I1 t1 => Hb K I1 (F.stp I t1) e2 fun z2 s2 φ2 r2 I2 t2 =>
      cmpV_snd q.1 I2 g.sys R.u (r1.stp I1 t2) r2 (wpAny_truthy_bool (by cases q.2; exact (h.after (t1.trans t2)).same I2))) (marks_ok (ok e2))
theorem snd_ite {t : Expr} {mt : MT} (Hc : SndT A sc t mt) (Ha : SndE A sc a ma) (Hb : SndE A sc b mb') : SndE A sc (.IfExp t a b p) (kIte mt ma mb') := fun K I F e h =>
  thn_case e fun x σ1 e1 e => wpAny_IfExp (Hc K I F e1 fun s1 φ1 I1 t1 => by
    cases x with
    | true => rw [if_pos rfl]; exact Ha K I1 (F.stp I t1) e (h.after t1)
    | false => rw [if_neg (by decide)]; exact Hb K I1 (F.stp I t1) e (h.after t1))
theorem snd_idx (Ha : SndE A sc a ma) (Hi : SndE A sc b mb') (ok : Okd b mb') : SndE A sc (.Subscript a b p) (k2 fIdx ma mb') := fun K I F e h =>
  thn_case e fun x σ1 e1 e => thn_case e fun y σ2 e2 e => Exists.elim (map_inv e) fun r q =>
    Subscript_ (Ha K I F e1 fun z1 s1 φ1 r1 I1 t1 => Hi K I1 (F.stp I t1) e2 fun z2 s2 φ2 r2 I2 t2 =>
      idxV_snd q.1 I2 (r1.stp I1 t2) r2 (sub_ok (ok e2)) ((h.after (t1.trans t2)).of (congrArg some q.2)))
theorem snd_slL {q : Pos} (Ha : SndE A sc a ma) (Hi : SndE A sc b mb') : SndE A sc (.Subscript a (.Slice (some b) none none q) p) (k2 fSlL ma mb') := fun K I F e h =>
  thn_case e fun x σ1 e1 e => thn_case e fun y σ2 e2 e =>
    Subscript_ (Ha K I F e1 fun z1 s1 φ1 r1 I1 t1 => wpAny_Slice (Hi K I1 (F.stp I t1) e2 fun z2 s2 φ2 r2 I2 t2 => wpAny_pure (wpAny_pure (by
      obtain ⟨_, _, _, h1, _⟩ := sliceV_parts e
      obtain ⟨p, rfl, hp⟩ := LP.of r2 h1
      exact sliceV_snd (pu := none) e I2 (r1.stp I1 t2) hp .none (fun i => rfl) (h.after (t1.trans t2))))))
theorem snd_slR {q : Pos} (g : GK G d) (Ha : SndE A sc a ma) (Hi : SndE A sc b mb') : SndE A sc (.Subscript a (.Slice none (some b) none q) p) (k2 (fSlR G) ma mb') := fun K I F e h =>
  thn_case e fun x σ1 e1 e => thn_case e fun y σ2 e2 e =>
    Subscript_ (Ha K I F e1 fun z1 s1 φ1 r1 I1 t1 => wpAny_Slice (wpAny_pure (Hi K I1 (F.stp I t1) e2 fun z2 s2 φ2 r2 I2 t2 => wpAny_pure (by
      obtain ⟨_, _, h1⟩ := sliceR_parts e
      obtain ⟨p, rfl, hp⟩ := LP.of r2 h1
      exact sliceR_snd e I2 (r1.stp I1 t2) hp g.ro (fun i => rfl) (h.after (t1.trans t2))))))
theorem snd_slB {q : Pos} (Ha : SndE A sc a ma) (Hl : SndE A sc b mb') (Hi : SndE A sc c mc) : SndE A sc (.Subscript a (.Slice (some b) (some c) none q) p) (k3 fSlB ma mb' mc) := fun K I F e h =>
  thn_case e fun x σ1 e1 e => thn_case e fun y σ2 e2 e => thn_case e fun z σ3 e3 e =>
    Subscript_ (Ha K I F e1 fun z1 s1 φ1 r1 I1 t1 => wpAny_Slice (Hl K I1 (F.stp I t1) e2 fun z2 s2 φ2 r2 I2 t2 => Hi K I2 (F.stp I (t1.trans t2)) e3 fun z3 s3 φ3 r3 I3 t3 => wpAny_pure (by
      obtain ⟨_, _, _, h1, h2⟩ := sliceV_parts e
      obtain ⟨p, rfl, hp⟩ := LP.of r2 h1
      obtain ⟨p', rfl, hp'⟩ := LP.of r3 h2
      exact sliceV_snd e I3 ((r1.stp I1 t2).stp I2 t3) hp hp' (fun i => rfl) (h.after ((t1.trans t2).trans t3)))))
theorem snd_list {me : MEs} (H : SndEs A sc xs me) : SndE A sc (.List xs p) (kEs fList me) := fun K I F e h =>
  thn_case e fun vs σ1 e1 e => wpAny_List (H K I F e1 fun xs s1 φ1 r1 I1 t1 => ⟨by rw [← r1.length]; exact len_line (ite_c e), ((h.after t1).of (ite_v e)).list I1 _ r1⟩)
theorem snd_tup {me : MEs} {j : Nat} (H : SndEs A sc xs me) : SndE A sc (.Tuple xs j p) (kEs fTup me) := fun K I F e h =>
  thn_case e fun vs σ1 e1 e => wpAny_Tuple (H K I F e1 fun xs s1 φ1 r1 I1 t1 => ⟨by rw [← r1.length]; exact len_line (ite_c e), by
    have g := nw_push s1 { cls := .type "tuple", data := .seq xs.toArray } s1.toks s1.drawn
    exact ((h.after t1).of (ite_v e)).nw I1 g I1.bare (.tup (Heap.get?_push_size _ rfl) (VRs.mono (.refl φ1) g.imm r1))⟩)
theorem dictAt_new {K : Type} [DecidableEq K] (knd : PySem.KeyKind prog w K) {h : Heap} {a : Addr} (e : h.get? a = some { cls := .type "dict", data := .dict #[] }) : h.DictAt knd a [] 0 :=
  ⟨_, #[], e, ⟨rfl, rfl, rfl⟩, rfl, fun _ he => absurd he (by simp), Pairs.nil, List.nodup_nil⟩
theorem snd_dict0 {b : Bool} : SndE A sc (.Dict [] [] p) (kDict0 b) := fun K I F e h =>
  wpAny_Dict_empty (PV.new (h.of e) I (nw_push _ _ _ _) I.bare (new_addr _) (by
    cases b
    · exact ⟨[], dictAt_new _ (Heap.get?_push_size _ rfl), .nil⟩
    · exact ⟨[], dictAt_new _ (Heap.get?_push_size _ rfl), .nil⟩))
theorem sndEs_nil : SndEs A sc [] kNil := fun K I F e h => by
  cases e
  exact args_nil (h [] _ _ .nil I (.refl _ _))
theorem sndEs_cons {me : MEs} (Ha : SndE A sc a ma) (ok : Okd a ma) (Hs : SndEs A sc xs me) : SndEs A sc (a :: xs) (kCons ma me) := fun K I F e h =>
  thn_case e fun x σ1 e1 e => thn_case e fun vs σ2 e2 e => args_cons (Ha K I F e1 fun z1 s1 φ1 r1 I1 t1 => Hs K I1 (F.stp I t1) e2 fun xs s2 φ2 r2 I2 t2 => by
    cases e
    exact h _ s2 φ2 (.cons (r1.stp I1 t2) r2) I2 (t1.trans t2)) (star_ok (ok e1))
end
end
section
set_option maxHeartbeats 2000000
set_option backward.match.sparseCases false
open PySem PySem.W PyProof.Rows PySem.Calls
section
variable {h0 : Heap} {G : GX} {A : Around} {d n : Nat} {E : Value → Shared → Prop} {env : Env} {sc csc : Scope} {σ σ' σ1 : St} {φ φ' : List Addr} {s s' : Shared} {ρ : Env1} {v : V} {a b c x : Expr} {xs : List Expr} {m ma mb' mc : ME} {p : Pos} {me : MEs}
theorem truV_snd {v : V} {x : Value} {b : Bool} {Q : Bool → Shared → Prop} (e : truV v = some b) (I : SR σ φ s) (r : VR φ s.heap v x) (h : PN φ s σ (Q b)) : wpAny (model prog w) A (truthy x) Q E s := by
  cases r with
  | none => cases e; exact PyProof.Rows.truthy_none (h.same I)
  | bool b => cases e; exact wpAny_truthy_bool (h.same I)
  | int i t =>
    refine PySem.P.truthy_int ?_
    cases e
    rw [show (i != 0) = decide (i ≠ 0) by by_cases h : i = 0 <;> simp [h]]
    exact h.same I
  | str y t =>
    have hl := len_ok (ite_c e)
    refine PySem.P.truthy_str (by rw [S_len]; omega) ?_
    cases ite_v e
    rw [show (((S y).length : Int) != 0) = !y.isEmpty by rw [S_len]; cases y <;> simp; omega]
    exact h _ _ (I.toks _) (.nw (nw_toks s _ _))
  | _ => cases e
noncomputable def plainT : Expr → Bool
  | .BinOp .. | .Name .. | .Subscript .. | .Call .. => true
  | _ => false
theorem sndT_val (Ha : SndE A sc x m) (hp : plainT x = true) : SndT A sc x (tV m) := fun K I F e h =>
  thn_case e fun u σ1 e1 e => Exists.elim (map_inv e) fun b q => wpAny_isTrue_value (Ha K I F e1 fun z1 s1 φ1 r1 I1 t1 => truV_snd q.1 I1 r1 (by cases q.2; exact h.after t1)) (by cases x <;> first | rfl | cases hp)
theorem sndT_not {mt : MT} (Ha : SndT A sc a mt) : SndT A sc (.UnaryOp .Not a p) (tNot mt) := fun K I F e h =>
  thn_case e fun b σ1 e1 e => wpAny_isTrue_Not (Ha K I F e1 (by cases e; exact h))
theorem sndT_cmp2 {o1 o2 : CmpOp} (g : GK G d) (R : RoomA A d) (Ha : SndE A sc a ma) (Hb : SndE A sc b mb') (Hc : SndE A sc c mc) (okc : Okd c mc) (hc : okX c = true) : SndT A sc (.Compare a [o1, o2] [b, c] p) (tCmp2 o1 o2 ma mb' mc) := fun K I F e h =>
  thn_case e fun x σ1 e1 e => thn_case e fun y σ2 e2 e => isTrue_chain (Ha K I F e1 fun z1 s1 φ1 r1 I1 t1 => test_link (Hb K I1 (F.stp I t1) e2 fun z2 s2 φ2 r2 I2 t2 => by
    have h2 := h.after (t1.trans t2)
    cases e3 : cmpV σ2 o1 x y with
    | none => rw [e3] at e; cases e
    | some r =>
      rw [e3] at e
      refine cmpV_snd e3 I2 g.sys R.u (r1.stp I1 t2) r2 (wpAny_truthy_bool ?_)
      cases r with
      | false => rw [if_neg (by decide)]; cases e; exact h2.same I2
      | true =>
        rw [if_pos rfl]
        refine thn_case e fun z σ3 e4 e => Exists.elim (map_inv e) fun r q => test_last (Hc K I2 (F.stp I (t1.trans t2)) e4 fun z3 s3 φ3 r3 I3 t3 => ?_)
        exact cmpV_snd q.1 I3 g.sys R.u (r2.stp I2 t3) r3 (wpAny_truthy_bool (by cases q.2; exact (h2.after t3).same I3)))) (marks_ok hc)
theorem sndT_all {cc : CC} (Hc : ∀ x, SndT A sc x (cc.t sc x)) (isAnd : Bool) : ∀ xs : List Expr, ∀ {env : Env} {h0 : Heap} {ρ : Env1} {σ : St} {φ : List Addr} {s : Shared} {b : Bool} {σ' : St} {Q : Bool → Shared → Prop} {E : Value → Shared → Prop},
    EnvOK sc env h0 → SR σ φ s → FR env ρ φ s → cTs cc sc isAnd xs ρ σ = some (b, σ') → PN φ s σ' (Q b) → wpAny (model prog w) A (allTrue (match isAnd with | true => .And | false => .Or) xs env) Q E s := by
  intro xs
  induction xs with
  | nil => intro env h0 ρ σ φ s b σ' Q E K I F e h; cases e; cases isAnd <;> exact wpAny_pure (h.same I)
  | cons x r ih =>
    intro env h0 ρ σ φ s b σ' Q E K I F e h
    refine thn_case e fun b1 σ1 e1 e => ?_
    cases isAnd with
    | false =>
      refine wpAny_allTrue_Or_cons (Hc x K I F e1 fun s1 φ1 I1 t1 => ?_)
      cases b1 with
      | true => cases e; exact (h.after t1).same I1
      | false => exact ih K I1 (F.stp I t1) e (h.after t1)
    | true =>
      refine wpAny_allTrue_And_cons (Hc x K I F e1 fun s1 φ1 I1 t1 => ?_)
      cases b1 with
      | false => cases e; exact (h.after t1).same I1
      | true => exact ih K I1 (F.stp I t1) e (h.after t1)
noncomputable def SndIfs (A : Around) (sc : Scope) (xs : List Expr) (m : MT) : Prop := ∀ {env : Env} {h0 : Heap} {ρ : Env1} {σ : St} {φ : List Addr} {s : Shared} {b : Bool} {σ' : St} {Q : Bool → Shared → Prop} {E : Value → Shared → Prop},
  EnvOK sc env h0 → SR σ φ s → FR env ρ φ s → m ρ σ = some (b, σ') → PN φ s σ' (Q b) →
    wpAny (model prog w) A (forIn xs true fun c r => if r = true then do let ok ← PySem.isTrue c env (eval c env); pure (ForInStep.yield ok) else pure (ForInStep.yield r)) Q E s
theorem ifs_false {l : List Expr} {Q : Bool → Shared → Prop} (h : Q false s) : wpAny (model prog w) A (forIn l false fun c r => if r = true then do let ok ← PySem.isTrue c env (eval c env); pure (ForInStep.yield ok) else pure (ForInStep.yield r)) Q E s := by
  induction l with
  | nil => rw [List.forIn_nil]; exact wpAny_pure h
  | cons x r ih => rw [List.forIn_cons]; exact wpAny_bind (wpAny_pure ih)
theorem sndIfs_all {cc : CC} (Hc : ∀ x, SndT A sc x (cc.t sc x)) : ∀ xs : List Expr, SndIfs A sc xs (cTs cc sc true xs) := by
  intro xs
  induction xs with
  | nil => intro env h0 ρ σ φ s b σ' Q E K I F e h; cases e; rw [List.forIn_nil]; exact wpAny_pure (h.same I)
  | cons x r ih =>
    intro env h0 ρ σ φ s b σ' Q E K I F e h
    refine thn_case e fun b1 σ1 e1 e => ?_
    rw [List.forIn_cons]
    refine wpAny_bind (wpAny_bind (Hc x K I F e1 fun s1 φ1 I1 t1 => wpAny_pure ?_))
    cases b1 with
    | false => cases e; exact ifs_false ((h.after t1).same I1)
    | true => exact ih K I1 (F.stp I t1) e (h.after t1)
theorem callT_some {Ff : List T → Option (T × Nat)} {vs : List V} {r : V × St} (e : callT Ff vs σ = some r) : ∃ ts q, Ff ts = some q := by
  unfold callT at e
  cases h : frzL (frz σ 8) vs with
  | none => rw [h] at e; cases e
  | some q =>
    rw [h] at e
    have e := ite_v e
    cases h2 : Ff q.1 with
    | none => rw [h2] at e; cases e
    | some y => exact ⟨_, y, h2⟩
theorem snd_callG {f : PySem.Str} (g : GK G d) (R : RoomA A d) (w1 : gk sc f = true) (w2 : fnN.contains f = true) (hst : okX a = true) (H : SndEs A sc (a :: xs) me) : SndE A sc (.Call (.Name f p') (a :: xs) [] p) (kEs (callF G (lIx fnN f)) me) := fun K I F e h =>
  thn_case e fun vs σ1 e1 e => by
    obtain ⟨ts, r, hr⟩ := callT_some e
    obtain ⟨fa, o, fd, h1, h2, h3, h4⟩ := g.fns _ f ts r (lIx_get w2) hr
    exact wpAny_Call_NameR (glo_snd g w1 K I h1 (callWith_def h3 (H K I F e1 fun xs s1 φ1 r1 I1 t1 => ⟨I1.keep _ _ h2, h4 R I1 r1 e (h.after t1)⟩) (star_ok hst)))
theorem plain_all {pos : Pos} : okXs xs = true → (backTo pos (starEach xs env)).any (·.1) = false := by
  induction xs with
  | nil => exact fun _ => rfl
  | cons x r ih =>
    intro h
    have q := Bool.and_eq_true_iff.mp h
    rw [star_ok q.1]
    exact ih q.2
theorem snd_callB {f : PySem.Str} {bi : BI} (g : GK G d) (R : RoomA A d) (w1 : gk sc f = true) (hb : f = biName bi) (hst : okX a = true) (hpl : okXs xs = true) (H : SndEs A sc (a :: xs) me) : SndE A sc (.Call (.Name f p') (a :: xs) [] p) (kEs (biV bi) me) := fun K I F e h =>
  thn_case e fun vs σ1 e1 e => by
    refine wpAny_Call_NameR (blt_snd g w1 K I (hb ▸ g.bi bi) ?_)
    have fin := fun p E => H (pos := p) (E := E) K I F e1 fun xs s1 φ1 r1 I1 t1 => biV_snd (A := A) (E := E) R.hh R.u g.sys e I1 r1 (h.after t1)
    cases bi with
    | range => exact PyProof.Rows.callWith_type1 (T := "range") (fin _ _) (star_ok hst) (plain_all hpl)
    | list => exact PyProof.Rows.callWith_type1 (T := "list") (fin _ _) (star_ok hst) (plain_all hpl)
    | len => exact PyProof.Rows.callWith_builtin1 (id := "len") (fin _ _) (star_ok hst) (plain_all hpl)
    | min2 => exact PyProof.Rows.callWith_builtin1 (id := "min") (fin _ _) (star_ok hst) (plain_all hpl)
    | minL => exact PyProof.Rows.callWith_builtin1 (id := "min") (fin _ _) (star_ok hst) (plain_all hpl)
    | iter => exact PyProof.Rows.callWith_builtin1 (id := "iter") (fin _ _) (star_ok hst) (plain_all hpl)
    | next => exact PyProof.Rows.callWith_builtin1 (id := "next") (fin _ _) (star_ok hst) (plain_all hpl)
    | ord => exact PyProof.Rows.callWith_builtin1 (id := "ord") (fin _ _) (star_ok hst) (plain_all hpl)
    | chr => exact PyProof.Rows.callWith_builtin1 (id := "chr") (fin _ _) (star_ok hst) (plain_all hpl)
    | hex => exact PyProof.Rows.callWith_builtin1 (id := "hex") (fin _ _) (star_ok hst) (plain_all hpl)
theorem evalArgs_any {M : Model} {f : Value} {pos : Pos} {Q : Args → Shared → Prop} (hpl : okXs xs = true)
    (h : wpAny M A (spliced (backTo pos (starEach xs env))) (fun vs s₁ => Q ⟨vs, []⟩ s₁) E s) : wpAny M A (evalArgs f true (backTo pos (starEach xs env)) []) Q E s := by
  cases xs with
  | nil =>
    have h' : wpAny M A (spliced []) (fun vs s₁ => Q ⟨vs, []⟩ s₁) E s := h
    show wpAny M A (evalArgs f true [] []) Q E s
    unfold evalArgs
    refine wpAny_bind (wpAny_mono h' (fun vs s₁ h₁ => ?_) fun _ _ e => e)
    refine wpAny_bind (wpAny_pure ?_)
    refine wpAny_holding ?_
    exact wpAny_bind (wpAny_pure (wpAny_bind (wpAny_pure (wpAny_pure h₁))))
  | cons x r =>
    have hx := star_ok (env := env) (rest := r) (Bool.and_eq_true_iff.mp hpl).1
    rw [hx] at h ⊢
    exact evalArgs_plain h
theorem few_all {pos : Pos} (hpl : okXs xs = true) (hl : decide (xs.length < 30) = true) : (((backTo pos (starEach xs env)).all (fun x => !x.1) && (backToKw pos (keywordEach [] env)).all (fun x => x.1.isSome)
      && decide (xs.length + ([] : List Keyword).length + (if ([] : List Keyword).isEmpty then 0 else 1) < 30)) = true) := by
  rw [Bool.and_eq_true, Bool.and_eq_true]
  refine ⟨⟨List.all_eq_true.mpr fun x hx => ?_, rfl⟩, hl⟩
  have := List.any_eq_false.mp (plain_all (pos := pos) (env := env) hpl) x hx
  cases q : x.1 with
  | false => rfl
  | true => exact absurd q this
theorem base_ok {n : PySem.Str} {whole : Sem Value} (h : okB a = true) : attributeBase a n env whole = whole := by
  cases a with
  | Call f xs k p =>
    cases xs with
    | nil => cases h
    | cons _ _ => cases f <;> rfl
  | _ => rfl
theorem snd_meth {mi : MI} {q : Pos} (g : GK G d) (hb : okB a = true) (hq : (q.endLine == p.line) = true) (hl : decide (xs.length < 30) = true) (hpl : okXs xs = true) (Ho : SndE A sc a ma) (H : SndEs A sc xs me) : SndE A sc (.Call (.Attribute a (miName mi) q) xs [] p) (kMeth mi ma me) := fun K I F e h =>
  thn_case e fun x σ1 e1 e => thn_case (ite_v e) fun vs σ2 e2 e' => by
    refine wpAny_Call_method_late (base_ok hb) (few_all hpl hl) hq rfl (Ho K I F e1 fun z1 s1 φ1 r1 I1 t1 => ?_)
    obtain ⟨p1, p2, p3, p4, p5⟩ := mOk_snd (ite_c e) I1 r1
    exact ⟨miT mi, miId mi, p1, p2, p3, p4, p5, PySem.Calls.callWith_builtin (plain_all hpl) (evalArgs_any hpl (H K I1 (F.stp I t1) e2 fun xs s2 φ2 r2 I2 t2 => miV_snd g.sys e' I2 (r1.stp I1 t2) r2 (h.after (t1.trans t2))))⟩
theorem int1_inv {α : Type} {f : Int → Option α} {a : V} {r : α} (e : int1 a f = some r) : ∃ i, a = .int i ∧ f i = some r := by
  cases a with
  | int i => exact ⟨i, rfl, e⟩
  | _ => cases e
theorem snd_flagGet {q : Pos} (g : GK G d) (w1 : gk sc flN = true) (hq : (q.endLine == p.line) = true) (oka : okX a = true) (okb : okX b = true) (Ha : SndE A sc a ma) (Hb : SndE A sc b mb') : SndE A sc (.Call (.Attribute (.Name flN p') "get" q) [a, b] [] p) (kFlag G ma mb') := fun K I F e h =>
  thn_case e fun x σ1 e1 e => by
    obtain ⟨fa, kvs, f1, f2, f3, f4⟩ := g.flags
    have f3' : ∀ {s1 : Shared} {φ1 : List Addr} {σ1 : St}, SR σ1 φ1 s1 → s1.heap.DictOf (intKind prog w) fa kvs := fun I1 => by
      obtain ⟨o, es, ep, ho, r⟩ := f3
      exact ⟨o, es, ep, I1.keep _ _ ho, r⟩
    refine wpAny_Call_method2_late rfl hq (by rw [star_ok oka, star_ok okb]; rfl) (glo_snd g w1 K I f1 ⟨"dict", "dict.get", PySem.F.plainAttrs_dict, PySem.F.slot_dict_get, PySem.F.type_dict_get, (f3' I).typeIs, fun x hx => ?_, ?_⟩)
    · cases hx
      obtain ⟨o, es, ep, ho, hd, _⟩ := f3' I
      exact ⟨o, ho, hd.2.1⟩
    · refine wpAny_dict_get2 (knd := intKind prog w) f2 (Ha K I F e1 fun z1 s1 φ1 r1 I1 t1 => ?_)
      obtain ⟨i, rfl, e⟩ := int1_inv e
      obtain ⟨t, rfl⟩ := r1.int'
      refine thn_case e fun dv σ2 e2 e => Hb K I1 (F.stp I t1) e2 fun z2 s2 φ2 r2 I2 t2 => ?_
      refine ⟨i, _, isIntKind, (f3' I2).mapOf, ?_⟩
      have h := (h.after (t1.trans t2)).of e
      have := f4 i
      cases q : getK G.flags i with
      | none =>
        rw [q] at this h
        rw [show valueAt kvs i = none from this]
        exact h.toks I2 _ r2
      | some x =>
        rw [q] at this h
        obtain ⟨t', e⟩ := this
        rw [e]
        exact h.toks I2 _ (.str x t')
theorem vints_val {h : Heap} {es : List (Int × V)} {kvs : List (Int × Value)} (r : KR id φ h es kvs) : ∀ {ns : List (Int × Int)}, vints es = some ns → ∀ (i : Nat) (k : Int) (x : Value), kvs[i]? = some (k, x) → ∃ t, x = .int ((ns.map (·.2)).getD i 0) t := by
  induction r with
  | nil => exact fun _ i k x h => nomatch h
  | @cons e kv es kvs q _ ih =>
    intro ns h i k x hk
    obtain ⟨k', v⟩ := e
    obtain ⟨j, ms, rfl, e1, rfl⟩ := vints_cons h
    cases i with
    | zero => cases hk; exact q.2.int'
    | succ i => exact ih e1 i k x hk
theorem preSum_list (l : List Int) : ∀ n : Nat, n ≤ l.length → preSum (fun i => l.getD i 0) n = sumI (l.take n) := by
  have hs : ∀ (a : List Int) (x : Int), sumI (a ++ [x]) = sumI a + x := by
    intro a x
    induction a with
    | nil => exact Int.add_comm x 0
    | cons y r ih => show y + sumI (r ++ [x]) = y + sumI r + x; rw [ih, Int.add_assoc]
  intro n
  induction n with
  | zero => exact fun _ => rfl
  | succ n ih =>
    intro h
    rw [preSum, ih (Nat.le_of_succ_le h), List.take_add_one, List.getElem?_eq_getElem h, List.getD_eq_getElem?_getD, List.getElem?_eq_getElem h]
    exact (hs _ _).symm
theorem snd_sumVals {q r : Pos} (g : GK G d) (R : RoomA A d) (w1 : gk sc "sum" = true) (hb : okB a = true) (hq : (q.endLine == r.line) = true) (Ha : SndE A sc a ma) : SndE A sc (.Call (.Name "sum" p') [.Call (.Attribute a "values" q) [] [] r] [] p) (kSumVals ma) := fun K I F e h =>
  thn_case e fun x σ1 e1 e => by
    refine wpAny_Call_NameR (blt_snd g w1 K I g.sum (PyProof.Rows.callWith_builtin1 (id := "sum") (args_cons (wpAny_Call_method0_late (base_ok hb) hq (Ha K I F e1 fun z1 s1 φ1 r1 I1 t1 => ?_)) rfl) rfl rfl))
    refine ref1_case r1 e fun k fa ka e => atI_case I1 ka e fun es kvs _ hd rk e => ?_
    obtain ⟨ns, hv, e⟩ := map_inv e
    have h := (h.after t1).of (congrArg some e)
    have lo := I1.noSys g.sys ka
    refine ⟨"dict", "dict.values", PySem.F.plainAttrs_dict, PySem.F.slot_dict_values, PySem.F.type_dict_values, hd.dictOf.typeIs, fun x hx => ?_, ?_⟩
    · cases hx
      obtain ⟨o, _, _, ho, _, hd, _⟩ := DictAt_cls hd
      exact ⟨o, ho, hd⟩
    refine PySem.Calls.callWith_builtin rfl (PySem.evalArgs_none ?_)
    refine call_meetsIn PySem.F.slot_dict_values hd.dictOf.typeIs PySem.F.entry_dict_values (PySem.F.args_dict_values_1 _) (meets_dict_values (intKind prog w) fa lo) ⟨⟨kvs, hd.dictOf⟩, ?_⟩
    refine args_nil ?_
    refine call_sum_walkG ?_
    have hsz : (s1.heap.push { cls := .type "dict_values", data := .fields #[.ref fa] }).objs.size = s1.heap.objs.size + 1 := Heap.size_push ..
    have hlt := hd.lt_size
    have hne : fa ≠ (s1.heap.push { cls := .type "dict_values", data := .fields #[.ref fa] }).objs.size := by rw [hsz]; exact Nat.ne_of_lt (Nat.lt_succ_of_lt hlt)
    refine wpAny_pyIter_values (knd := intKind prog w) ⟨_, Heap.get?_push_size _ rfl, rfl, rfl⟩ (hd.push _) ?_
    refine ⟨_, _, _, _, _, _, fun i => (ns.map (·.2)).getD i 0, rfl, Walks.dictValues (A := A.in1) (knd := intKind prog w) R.hh _ fa hne kvs es.length, ⟨⟨_, Heap.get?_push_size _ rfl, rfl, rfl⟩, (hd.push _).push _⟩, fun b hb => ?_, fun i v ⟨k, hk⟩ => vints_val rk hv i k v hk, fun h' tk t' hk => ?_⟩
    · show b < ((s1.heap.push _).push _).objs.size
      rw [Heap.size_push, hsz]
      rcases List.mem_cons.mp hb with rfl | hb
      · rw [hsz]; exact Nat.lt_succ_self _
      · rw [List.mem_singleton.mp hb]; exact Nat.lt_succ_of_lt (Nat.lt_succ_of_lt hlt)
    · have hlen : kvs.length = (ns.map (·.2)).length := by rw [List.length_map, ← vints_len hv]; exact rk.length.symm
      rw [preSum_list _ _ (Nat.le_of_eq hlen), List.take_of_length_le (Nat.le_of_eq hlen.symm)]
      refine h.nw I1 (nw_keep fun b o e => ?_) I1.bare (.int _ t')
      refine hk b o (fun hm => ?_) (Heap.get?_push_of_some _ (Heap.get?_push_of_some _ e))
      rw [List.mem_singleton.mp hm] at e
      have h3 := Heap.lt_size e
      rw [hsz] at h3
      exact absurd h3 (Nat.not_lt.mpr (Nat.le_succ _))
end
end
section
set_option maxHeartbeats 2000000
set_option backward.match.sparseCases false
open PySem PySem.W PyProof.Rows PySem.Calls
structure CK (csc : Scope) (env : Env) (hB : Heap) (φ1 : List Addr) (s1 : Shared) (D : Addr) : Prop where
  K : EnvOK csc env hB
  H : Hb hB
  l13 : ∀ x, hB.get? x = none → s1.heap.get? x = none
  hbn : ∀ x, s1.heap.get? x = none → hb.get? x = none
  fD : s1.heap.get? D = none
  lD : ∃ ob, hB.get? D = some ob
  hDl : D ≠ env.locals
structure CL {β : Type} (mo : β → O) (φ1 : List Addr) (s1 : Shared) (env : Env) (D : Addr) (its : List (Addr × It)) (ρ : Env1) (σ : St) (φ : List Addr) (s : Shared) (acc : β) : Prop where
  I : SR σ φ s
  t : Stp φ1 s1 φ s
  F : FR env ρ φ s
  R : ∀ p ∈ its, ItR φ s.heap p.1 p.2 ∧ p.1 ∉ φ ∧ s1.heap.get? p.1 = none ∧ p.1 ≠ D
  nd : (its.map (·.1)).Nodup
  gt : OR φ s.heap (mo acc) D
  nD : D ∉ φ
section
variable {β : Type} {mo : β → O} {h0 hB : Heap} {G : GX} {A : Around} {d n : Nat} {E : Value → Shared → Prop} {env cenv : Env} {sc csc : Scope} {σ σ' σ1 σ2 : St} {φ φ' φ1 : List Addr} {s s' s1 : Shared} {ρ ρ' : Env1} {v : V} {a D : Addr} {it : It} {its : List (Addr × It)} {acc acc' : β} {x : Value}
theorem CL.stp (L : CL mo φ1 s1 env D its ρ σ φ s acc) (I' : SR σ' φ' s') (t : Stp φ s φ' s') : CL mo φ1 s1 env D its ρ σ' φ' s' acc := by
  have im := L.I.immK t.go fun _ h => h
  obtain ⟨ob, _, e, _⟩ := L.gt.there
  refine ⟨I', L.t.trans t, L.F.stp L.I t, fun p hp => ?_, L.nd, L.gt.mono t.ext.1 im fun o e => t.go.keep D o e L.nD, t.ext.notin L.nD e⟩
  obtain ⟨R, na, q⟩ := L.R p hp
  obtain ⟨o, _, eo, _⟩ := R.ni
  exact ⟨R.go t.ext.1 im fun o e => t.go.keep _ o e na, t.ext.notin na eo, q⟩
theorem CL.it0 (L : CL mo φ1 s1 env D ((a, it) :: its) ρ σ φ s acc) (I' : SR σ φ s') (g : Go0 (· = a) s s') : CL mo φ1 s1 env D its ρ σ φ s' acc := by
  obtain ⟨⟨R, na, fa, hD⟩, Rs⟩ := List.forall_mem_cons.mp L.R
  obtain ⟨nin, nd⟩ := List.nodup_cons.mp L.nd
  have im : ImmK s.heap s'.heap := g.imm fun x q => q ▸ R.ni.notImm
  refine ⟨I', L.t.then0 g fun x q => q ▸ fa, L.F.iter R.ni g, fun p hp => ?_, nd, L.gt.mono (.refl φ) im fun o e => g.keep D o e fun q => hD q.symm, L.nD⟩
  exact ⟨(Rs p hp).1.go (.refl φ) im fun o e => g.keep _ o e fun q => nin (List.mem_map.mpr ⟨p, hp, q⟩), (Rs p hp).2⟩
theorem CL.next {r : Option (V × It)} {Q : Option Value → Shared → Prop} (C : CK csc env hB φ1 s1 D) (L : CL mo φ1 s1 env D ((a, it) :: its) ρ σ φ s acc) (hh : A.handled = none) (e : nextIt it σ = some r)
    (h : match r with
      | none => ∀ s', CL mo φ1 s1 env D its ρ σ φ s' acc → Q none s'
      | some p => ∀ y s', VR φ s'.heap p.1 y → CL mo φ1 s1 env D ((a, p.2) :: its) ρ σ φ s' acc → Q (some y) s') : wpAny (model prog w) A (pyNext (.ref a)) Q E s := by
  obtain ⟨⟨R, na, fa, hD⟩, _⟩ := List.forall_mem_cons.mp L.R
  refine next_snd hh e L.I R ⟨na, C.hbn a fa⟩ ?_
  cases r with
  | none => exact fun s' I' g => h s' (L.it0 I' g)
  | some p =>
    intro y s' ry R' I' g
    have L' := L.it0 I' g
    exact h y s' ry ⟨I', L'.t, L'.F, List.forall_mem_cons.mpr ⟨⟨R', na, fa, hD⟩, L'.R⟩, L.nd, L'.gt, L'.nD⟩
theorem CL.store {Q : Unit → Shared → Prop} {X : Nat} {nX : PySem.Str} {px : Pos} (C : CK csc env hB φ1 s1 D) (L : CL mo φ1 s1 env D its ρ σ φ s acc) (O : Own env hB X) (hX : At csc X nX) (e : setL ρ X v = some ρ') (r : VR φ s.heap v x)
    (h : ∀ s', CL mo φ1 s1 env D its ρ' σ φ s' acc → Q () s') : wpAny (model prog w) A (assign (.Name nX px) env x) Q E s :=
  wpAny_assign_Name (store_snd C.K O C.H L.I L.F hX e r fun s' I' F' g im _ => h s' ⟨I', L.t.then0 g.toGo0 fun x p => C.l13 x p.2.1, F', fun p hp => by
    obtain ⟨R, q⟩ := L.R p hp
    refine ⟨R.go (.refl φ) im fun o e => g.keep _ o e fun m => ?_, q⟩
    obtain ⟨ob, fs, e1, e2, _⟩ := R.ni
    obtain ⟨o2, e3, e4⟩ := L.F.mine m.2.2
    cases e1.symm.trans e3; exact e4 fs e2, L.nd, L.gt.mono (.refl φ) im fun o e => g.keep D o e fun p => Exists.elim C.lD fun _ q => none_some p.2.1 q, L.nD⟩)
theorem CL.gather (C : CK csc env hB φ1 s1 D) (L : CL mo φ1 s1 env D its ρ σ φ s acc) (g : Go (· = D) s s') (hg : AllBare s'.gens) (O' : ImmK s.heap s'.heap → OR φ s'.heap (mo acc') D) : CL mo φ1 s1 env D its ρ σ φ s' acc' := by
  obtain ⟨ob, T, e, c, hT, nc⟩ := L.gt.there
  have im : ImmK s.heap s'.heap := g.toGo0.imm fun x q => q ▸ ⟨ob, e, stT_imm c hT⟩
  refine ⟨L.I.step g (fun x q => q ▸ ⟨L.nD, C.hbn D C.fD⟩) im hg, L.t.then0 g.toGo0 fun x q => q ▸ C.fD, L.F.go0 g.toGo0 (.refl φ) im (fun a h => .inl h) (fun q => C.hDl q.symm) fun c v hc q => ?_, fun p hp => ?_, L.nd, O' im, L.nD⟩
  · obtain ⟨o, e', d'⟩ := hc
    rw [q] at e'
    cases e.symm.trans e'; exact nc _ d'
  · obtain ⟨R, q1, q2, q3⟩ := L.R p hp
    exact ⟨R.go (.refl φ) im fun o e => g.keep _ o e q3, q1, q2, q3⟩
theorem setL_again {X : Nat} {v' : V} (e : setL ρ X v = some ρ') : setL ρ' X v' = setL ρ X v' := by
  obtain ⟨h, rfl⟩ := setL_inv e
  unfold setL
  rw [List.length_set, if_pos h, if_pos h, List.set_set]
noncomputable def CInv (mo : β → O) (φ1 : List Addr) (s1 : Shared) (env : Env) (D : Addr) (its : List (Addr × It)) (a : Addr) (ρf : Env1) (X : Nat) (f : V → St → β → Option (β × St)) (res : β × St) (m : Nat) (s : Shared) : Prop :=
  ∃ it σ acc φ ρ, cloop f m it σ acc = some res ∧ CL mo φ1 s1 env D ((a, it) :: its) ρ σ φ s acc ∧ ∀ v, setL ρ X v = setL ρf X v
theorem cloop_case {f : V → St → β → Option (β × St)} {k : Nat} {res : β × St} (e : cloop f k it σ acc = some res) {P : Prop}
    (h0 : nextIt it σ = some none → res = (acc, σ) → P) (h1 : ∀ m v it' acc' σ', k = m + 1 → nextIt it σ = some (some (v, it')) → f v σ acc = some (acc', σ') → cloop f m it' σ' acc' = some res → P) : P := by
  cases k with
  | zero => cases e
  | succ m =>
    unfold cloop at e
    cases hn : nextIt it σ with
    | none => rw [hn] at e; cases e
    | some r =>
      rw [hn] at e
      cases r with
      | none => exact h0 hn (Option.some.inj e).symm
      | some p =>
        have e : (match f p.1 σ acc with
          | some (acc', σ') => cloop f m p.2 σ' acc'
          | none => none) = some res := e
        cases hf : f p.1 σ acc with
        | none => rw [hf] at e; cases e
        | some q => rw [hf] at e; exact h1 m p.1 p.2 q.1 q.2 rfl hn hf e
noncomputable def BodyOK (mo : β → O) (φ1 : List Addr) (s1 : Shared) (env : Env) (D : Addr) (a : Addr) (its : List (Addr × It)) (ρf : Env1) (X : Nat) (f : Env1 → St → β → Option (β × St)) (Body : (Shared → Prop) → Shared → Prop) : Prop :=
  ∀ {it : It} {ρ : Env1} {σ : St} {φ : List Addr} {s : Shared} {acc acc' : β} {σ' : St} {P : Shared → Prop}, CL mo φ1 s1 env D ((a, it) :: its) ρ σ φ s acc → (∀ v, setL ρ X v = setL ρf X v) → f ρ σ acc = some (acc', σ') →
    (∀ φ' s', CL mo φ1 s1 env D ((a, it) :: its) ρ σ' φ' s' acc' → P s') → Body P s
noncomputable abbrev ifsOf (ifs : List Expr) (env : Env) : Sem Bool := forIn ifs true fun c r => if r = true then do let ok ← PySem.isTrue c env (eval c env); pure (ForInStep.yield ok) else pure (ForInStep.yield r)
theorem turn_snd {X : Nat} {nX : PySem.Str} {px : Pos} {ifs : List Expr} {mi : MT} {ρf : Env1} {f : Env1 → St → β → Option (β × St)} {Body : (Shared → Prop) → Shared → Prop} {res : β × St} {k : Nat} {R : Shared → Prop}
    (C : CK csc env hB φ1 s1 D) (hh : A.handled = none) (O : Own env hB X) (hX : At csc X nX) (Hifs : SndIfs A csc ifs mi) (Hb : BodyOK mo φ1 s1 env D a its ρf X f Body)
    (h : CInv mo φ1 s1 env D its a ρf X (turn ρf X mi f) res k s) (hR : ∀ φ' s' ρ', CL mo φ1 s1 env D its ρ' res.2 φ' s' res.1 → (∀ v, setL ρ' X v = setL ρf X v) → R s') :
    wpAny (model prog w) A (pyNext (.ref a)) (fun r s₁ => match r with
      | none => R s₁
      | some v => wpAny (model prog w) A (assign (.Name nX px) env v) (fun _ s₂ => wpAny (model prog w) A (ifsOf ifs env) (fun ok s₃ =>
          if ok = true then Body (fun s' => ∃ m, m < k ∧ CInv mo φ1 s1 env D its a ρf X (turn ρf X mi f) res m s') s₃ else ∃ m, m < k ∧ CInv mo φ1 s1 env D its a ρf X (turn ρf X mi f) res m s₃) E s₂) E s₁) E s := by
  obtain ⟨it, σ, acc, φ, ρ, ec, L, hset⟩ := h
  refine cloop_case ec (fun hn er => L.next C hh hn ?_) fun m v it' acc' σ' hk hn hf ec => L.next C hh hn ?_
  · intro s' L'
    exact hR φ s' ρ (by rw [er]; exact L') hset
  intro y s' ry L'
  unfold turn at hf
  cases hv : setL ρf X v with
  | none => rw [hv] at hf; cases hf
  | some ρ2 =>
    rw [hv] at hf
    have hset2 : ∀ v', setL ρ2 X v' = setL ρf X v' := fun v' => setL_again hv
    refine L'.store C O hX ((hset v).trans hv) ry fun s5 L5 => thn_case hf fun t σ3 ht hf => Hifs C.K L5.I L5.F ht fun s6 φ6 I6 t6 => ?_
    have L6 := L5.stp I6 t6
    have hm : m < k := hk ▸ Nat.lt_succ_self m
    cases t with
    | false =>
      rw [if_neg (by decide)]
      cases hf
      exact ⟨m, hm, it', _, _, φ6, ρ2, ec, L6, hset2⟩
    | true =>
      rw [if_pos rfl]
      exact Hb L6 hset2 hf fun φ' s' L7 => ⟨m, hm, it', _, _, φ', ρ2, ec, L7, hset2⟩
theorem list_body {X : Nat} {elt : Expr} {me : ME} {ρf : Env1} (C : CK csc env hB φ1 s1 D) (He : SndE A csc elt me) : BodyOK O.list φ1 s1 env D a its ρf X (gL me) fun P s => wpAny (model prog w) A (eval elt env) (fun x s₄ => wpAny (model prog w) A (call (.builtin "list.append") [.ref D, x]) (fun _ s₅ => P s₅) E s₄) E s :=
  fun L hset hf h => thn_case hf fun u σ1 e1 hf => He C.K L.I L.F e1 fun z s7 φ7 rz I7 t7 => by
    have L7 := L.stp I7 t7
    obtain ⟨xs, n, hD, ra⟩ := L7.gt
    refine wpAny_list_append_plain (items := xs.toArray) ⟨n, hD⟩ (fun h8 ⟨n8, hD8⟩ hs8 => ?_) (by rw [List.size_toArray, ← ra.length]; exact len_line (ite_c hf))
    cases ite_v hf
    exact h _ _ (L7.gather C (go_same hs8 ⟨_, hD8⟩) I7.bare fun im => ⟨xs ++ [z], n8, by rw [hD8]; simp, All2.snoc (VRs.mono (.refl _) im ra) (rz.mono (.refl _) im)⟩)
theorem dict_body {X : Nat} {kx vx : Expr} {mo' me : ME} {ρf : Env1} (C : CK csc env hB φ1 s1 D) (Hk : SndE A csc kx mo') (He : SndE A csc vx me) : BodyOK O.dI φ1 s1 env D a its ρf X (gD mo' me) fun P s => wpAny (model prog w) A (eval kx env) (fun kv s₄ => wpAny (model prog w) A (eval vx env) (fun vv s₅ =>
    wpAny (model prog w) A (dictSet D kv vv) (fun _ s₆ => P s₆) E s₅) E s₄) E s :=
  fun L hset hf h => thn_case hf fun u σ1 e1 hf => by
    obtain ⟨i, rfl, hf⟩ := int1_inv hf
    refine thn_case hf fun y σ2 e2 hf => Hk C.K L.I L.F e1 fun z s7 φ7 rz I7 t7 => ?_
    have L7 := L.stp I7 t7
    refine He C.K L7.I L7.F e2 fun z8 s8 φ8 rz8 I8 t8 => ?_
    have L8 := L7.stp I8 t8
    obtain ⟨t, rfl⟩ := rz.int'
    obtain ⟨kvs, hD, ra⟩ := L8.gt
    refine dictSet_at (knd := intKind prog w) (k := i) isIntKind hD (fun h9 hD9 hs9 => ?_) (by rw [← ra.length]; exact len_line (ite_c hf))
    cases ite_v hf
    obtain ⟨o, _, _, e, _⟩ := DictAt_cls hD9
    rw [show (kvs.any fun kv => decide (kv.1 = i)) = hasK _ i from KR.any (enc := id) (fun _ _ e => e) ra i, ← putK_len] at hD9
    exact h _ _ (L8.gather C (go_same hs9 ⟨o, e⟩) I8.bare fun im => ⟨_, hD9, KR.put (fun _ _ e => e) (rz8.mono (.refl _) im) (KR.mono (.refl _) im ra) i⟩)
end
end
section
set_option maxHeartbeats 2000000
set_option backward.match.sparseCases false
open PySem PySem.W PyProof.Rows PySem.Calls
section
variable {β : Type} {mo : β → O} {h0 : Heap} {G : GX} {A : Around} {d n : Nat} {E : Value → Shared → Prop} {env : Env} {sc csc : Scope} {σ σ' σ1 σ2 : St} {φ φ' φ1 : List Addr} {s s' s1 s2 s3 : Shared} {ρ ρ' : Env1} {v x : V} {a D : Addr} {i : It} {acc acc0 : β} {fr : List (Nat × Nat)} {nv X : Nat}
theorem live_none (l : ∀ a o, s.heap.get? a = some o → ∃ o', s'.heap.get? a = some o') {a : Addr} (h : s'.heap.get? a = none) : s.heap.get? a = none := no_obj fun o e => Exists.elim (l a o e) fun _ e' => none_some h e'
theorem Stp.adopt {s0 : Shared} {φ0 : List Addr} (t : Stp φ0 s0 φ s) (h : s0.heap.get? a = none) : Stp φ0 s0 (φ ++ [a]) s :=
  ⟨⟨t.ext.1.trans (.snoc φ a), fun x hx => (List.mem_append.mp hx).elim (t.ext.2 x) fun q => .inr (List.mem_singleton.mp q ▸ h)⟩, t.go⟩
theorem self_snd {Q : Value → Shared → Prop} (hh : A.handled = none) (R : ItR φ s.heap a i) (h : Q (.ref a) s) : wpAny (model prog w) A (pyIter (.ref a)) Q E s := by
  cases R with
  | walk W hn hl st hf hv => exact (W A hh).self _ s _ _ st h
  | seq e hi => exact wpAny_pyIter_listiter hi h
  | dk e hi => exact wpAny_pyIter_keyiter hi h
theorem comp_start {ob0 : Obj} (hob : ∀ φ h a, h.get? a = some ob0 → OR φ h (mo acc0) a) (K : EnvOK sc env h0) (I1 : SR σ φ1 s1) (F1 : FR env ρ φ1 s1) (g2 : Nw s1 s2) (g3 : Nw s2 s3) (b2 : AllBare s2.gens) (b3 : AllBare s3.gens) (w2 : cwf sc csc fr nv X = true)
    (R2 : ItR φ1 s2.heap a i) (ha : s1.heap.get? a = none) (nD : s2.heap.get? D = none) (hD : s3.heap.get? D = some ob0) :
    CK csc (childEnv csc env s3.heap.objs.size) s3.heap φ1 s1 D ∧ (∀ Y, cwf sc csc fr nv Y = true → Own (childEnv csc env s3.heap.objs.size) s3.heap Y) ∧ CL mo φ1 s1 (childEnv csc env s3.heap.objs.size) D [(a, i)] (frame ρ fr nv) σ φ1 (childS csc s3) acc0 := by
  have I2 := I1.nw' g2 b2
  have I3 := I2.nw' g3 b3
  have F3 := (F1.stp I1 (.nw g2)).stp I2 (.nw g3)
  have g4 := childNw csc s3
  obtain ⟨Kc, Oc, Fc⟩ := child_ok (cwf_ok w2) K I3 F3
  have g13 := g2.nw g3
  refine ⟨⟨Kc, I3.keep, fun x h => live_none g13.live h, fun x h => I1.hbn h, live_none g2.live nD, ⟨_, hD⟩, fun q => ?_⟩, fun Y wY => (child_ok (cwf_ok wY) K I3 F3).2.1, I3.nw' g4 b3, .nw (g13.nw g4), Fc, fun p hp => ?_, ?_, hob _ _ _ (g4.keep _ _ hD id), I2.new nD⟩
  · exact absurd (Heap.lt_size hD) (by rw [q]; exact Nat.lt_irrefl _)
  · obtain rfl := List.mem_singleton.mp hp
    obtain ⟨o, fs, e, _⟩ := R2.ni
    exact ⟨R2.go (.refl φ1) (Nw.imm (g3.nw g4)) fun o e => (g3.nw g4).keep _ o e id, I1.new ha, ha, fun q => none_some nD (by rw [← q]; exact e)⟩
  · exact List.nodup_cons.mpr ⟨List.not_mem_nil, List.nodup_nil⟩
theorem comp_fin {ob0 : Obj} {e : Expr} {loop : Env1 → It → St → Option (β × St)} {use : Option (Value → Sem Unit)} {Q : Value → Shared → Prop}
    (hob : ∀ φ h a, h.get? a = some ob0 → OR φ h (mo acc0) a) (hh : A.handled = none) (w2 : cwf sc csc fr nv X = true)
    (hstart : ∀ {it acc env R s}, codeAny (model prog w) A (.compLoop e 0 it acc env) R s → wpAny (model prog w) A (pyIter it) (fun it' s' => codeAny (model prog w) A (.compLoop e 0 it' acc env) R s') (notedBy (model prog w) A env fun x s' => R (.error x) s') s → codeAny (model prog w) A (.compStart e 0 it acc env) R s)
    (hloop : ∀ {cenv hB φ1 s1 D a i ρ σ φ s res} {R : Result → Shared → Prop}, CK csc cenv hB φ1 s1 D → (∀ Y, cwf sc csc fr nv Y = true → Own cenv hB Y) → CL mo φ1 s1 cenv D [(a, i)] (frame ρ fr nv) σ φ s acc0 → loop ρ i σ = some res → (∀ φ' s' ρ', CL mo φ1 s1 cenv D [] ρ' res.2 φ' s' res.1 → R (.ok .next) s') → codeAny (model prog w) A (.compLoop e 0 (.ref a) (.ref D) cenv) R s)
    (K : EnvOK sc env h0) (t1 : Stp φ s φ1 s1) (I1 : SR σ1 φ1 s1) (F1 : FR env ρ φ1 s1) (g2 : Nw s1 s2) (g3 : Nw s2 s3) (b2 : AllBare s2.gens) (b3 : AllBare s3.gens) (R2 : ItR φ1 s2.heap a i) (ha : s1.heap.get? a = none) (nD : s2.heap.get? D = none) (hD : s3.heap.get? D = some ob0)
    (e3 : loop ρ i σ1 = some (acc, σ2))
    (h : ∀ D C s' φ', s.heap.get? C = none → C ∉ φ' → SR (σ2 ++ [mo acc]) φ' s' → VR φ' s'.heap (.ref σ2.length) (.ref D) → Stp φ s φ' s' → (∃ m, s'.heap.Ns C m) → compPost (model prog w) A E use Q (.ref D) C (.ok .next) s') :
    codeAny (model prog w) A (.compStart e 0 (.ref a) (.ref D) (childEnv csc env s3.heap.objs.size)) (compPost (model prog w) A E use Q (.ref D) s3.heap.objs.size) (childS csc s3) := by
  obtain ⟨C, O, L⟩ := comp_start hob K I1 F1 g2 g3 b2 b3 w2 R2 ha nD hD
  have loop := hloop C O L e3 (R := compPost (model prog w) A E use Q (.ref D) s3.heap.objs.size) fun φ' s' ρ' L' => by
    have nC := live_none t1.go.live (C.l13 _ (new_addr s3.heap))
    obtain ⟨m, hm, _⟩ := L'.F.loc
    refine h D s3.heap.objs.size s' (φ' ++ [D]) nC (fun hm => ?_) (L'.I.adopt L'.nD (C.hbn D C.fD) (L'.gt.mono (.snoc φ' D) (.refl _) fun _ e => e)) (.ref (L'.I.last D)) ((t1.trans L'.t).adopt (live_none t1.go.live C.fD)) ⟨m, hm⟩
    exact (List.mem_append.mp hm).elim L'.F.nl fun q => C.hDl (List.mem_singleton.mp q).symm
  exact hstart loop (self_snd hh (List.forall_mem_cons.mp L.R).1.1 loop)
theorem comp_core {ob0 : Obj} {newAcc : Sem Value} {e it : Expr} {g : Comprehension} {gs : List Comprehension} {mit : ME} {loop : Env1 → It → St → Option (β × St)} {use : Option (Value → Sem Unit)} {pos : Pos} {Q : Value → Shared → Prop}
    (hob : ∀ φ h a, h.get? a = some ob0 → OR φ h (mo acc0) a) (hnf : ob0.isFreed = false) (hh : A.handled = none) (hs : HS) (w2 : cwf sc csc fr nv X = true) (Hit : SndE A sc it mit) (ok : Okd it mit) (hcl : clausesOf e = g :: gs) (hg : g.iter = it)
    (hnew : ∀ {Q E s}, Q (.ref s.heap.objs.size) { s with heap := s.heap.push ob0 } → wpAny (model prog w) A newAcc Q E s)
    (hstart : ∀ {it acc env R s}, codeAny (model prog w) A (.compLoop e 0 it acc env) R s → wpAny (model prog w) A (pyIter it) (fun it' s' => codeAny (model prog w) A (.compLoop e 0 it' acc env) R s') (notedBy (model prog w) A env fun x s' => R (.error x) s') s → codeAny (model prog w) A (.compStart e 0 it acc env) R s)
    (hloop : ∀ {cenv hB φ1 s1 D a i ρ σ φ s res} {R : Result → Shared → Prop}, CK csc cenv hB φ1 s1 D → (∀ Y, cwf sc csc fr nv Y = true → Own cenv hB Y) → CL mo φ1 s1 cenv D [(a, i)] (frame ρ fr nv) σ φ s acc0 → loop ρ i σ = some res → (∀ φ' s' ρ', CL mo φ1 s1 cenv D [] ρ' res.2 φ' s' res.1 → R (.ok .next) s') → codeAny (model prog w) A (.compLoop e 0 (.ref a) (.ref D) cenv) R s)
    (K : EnvOK sc env h0) (I : SR σ φ s) (F : FR env ρ φ s) (e1 : mit ρ σ = some (x, σ1)) (e2 : mkIter σ1 x = some i) (e3 : loop ρ i σ1 = some (acc, σ2))
    (h : ∀ D C s' φ', s.heap.get? C = none → C ∉ φ' → SR (σ2 ++ [mo acc]) φ' s' → VR φ' s'.heap (.ref σ2.length) (.ref D) → Stp φ s φ' s' → (∃ m, s'.heap.Ns C m) → compPost (model prog w) A E use Q (.ref D) C (.ok .next) s') :
    wpAny (model prog w) A (comprehension e csc env pos newAcc false (eval it env) use) Q E s := by
  have C := cwf_ok w2
  refine wpAny_comprehension_free hcl (fun x => by rw [hg]; exact fold_ok (ok e1)) (closure_eq fun n hn => ?_) C.fn (fun y hy hk => ?_) ?_
  · obtain ⟨j, hj⟩ := List.mem_iff_getElem?.mp hn
    obtain ⟨_, c, _, _, hc, _⟩ := free_par C K F hj
    rw [hc]; rfl
  · obtain ⟨j, hj⟩ := List.mem_iff_getElem?.mp hy
    exact lookup_at C.nd (by rw [hj, ← hk])
  refine Hit K I F e1 fun z s1 φ1 rz I1 t1 => iter_snd hs e2 I1 rz fun o R2 => hnew (newEnv_snd ?_)
  exact comp_fin (s2 := { s1 with heap := s1.heap.push o }) (s3 := { s1 with heap := (s1.heap.push o).push ob0 }) hob hh w2 hstart hloop K t1 I1 (F.stp I t1) (nw_push s1 o s1.toks s1.drawn) (nw_push ⟨s1.heap.push o, s1.gens, s1.drawn, s1.toks, s1.os⟩ ob0 s1.toks s1.drawn) I1.bare I1.bare R2 (new_addr _) (new_addr _) (Heap.get?_push_size _ hnf) e3 h
noncomputable def SndC (A : Around) (sc : Scope) (e it : Expr) (csc : Scope) (newAcc : Sem Value) (m : ME) : Prop := ∀ {env : Env} {h0 : Heap} {ρ : Env1} {σ : St} {φ : List Addr} {s : Shared} {v : V} {σ' : St} {Q E : Value → Shared → Prop} {use : Option (Value → Sem Unit)} {pos : Pos},
  EnvOK sc env h0 → SR σ φ s → FR env ρ φ s → m ρ σ = some (v, σ') →
  (∀ D C s' φ', s.heap.get? C = none → C ∉ φ' → SR σ' φ' s' → VR φ' s'.heap v (.ref D) → Stp φ s φ' s' → (∃ m, s'.heap.Ns C m) → compPost (model prog w) A E use Q (.ref D) C (.ok .next) s') →
    wpAny (model prog w) A (comprehension e csc env pos newAcc false (eval it env) use) Q E s
theorem ns_imm {h : Heap} {C : Addr} (hm : ∃ m, h.Ns C m) : ∃ ob, h.get? C = some ob ∧ ¬ Imm ob := by
  obtain ⟨m, o, es, ep, e, d, _⟩ := hm
  exact ⟨o, e, fun i => by rcases i with ⟨_, _, _, q⟩ | ⟨_, _, q⟩ <;> cases d.symm.trans q⟩
theorem SndC.snd {e it : Expr} {newAcc : Sem Value} {m : ME} (h : SndC A sc e it csc newAcc m) (he : ∀ env, ∃ pos, eval e env = comprehension e csc env pos newAcc false (eval it env) none) : SndE A sc e m := fun {env} {_ _ _ _ _ _ _ _ _} K I F ee hp => by
  obtain ⟨pos, hq⟩ := he env
  rw [hq]
  refine h (use := none) K I F ee fun D C s' φ' fC nC I' r' t' hm => ?_
  obtain ⟨m, hm'⟩ := id hm
  refine ⟨m, hm', fun h' hs => ?_⟩
  have g : Go0 (· = C) s' { s' with heap := h' } := go0_same fun b o hb e => (hs.2 b hb).trans e
  have im : ImmK s'.heap h' := g.imm fun x q => q ▸ ns_imm hm
  exact hp _ _ φ' (r'.mono (.refl φ') im) (I'.step0 g (fun a q => q ▸ ⟨nC, I.hbn fC⟩) im I'.bare) (t'.then0 g fun x q => q ▸ fC)
theorem cwf_at {n : PySem.Str} (h : cwf sc csc fr nv (nIx csc n) = true) : At csc (nIx csc n) n := by
  obtain ⟨_, _, _, e, _⟩ := (cwf_ok h).var
  exact nIx_at (lt_of_get e)
theorem list0 (φ : List Addr) (h : Heap) (a : Addr) (e : h.get? a = some { cls := .type "list", data := .seq ([] : List Value).toArray }) : OR φ h (O.list []) a := ⟨[], 0, e, .nil⟩
theorem fList_inv {acc : List V} (e : fList acc σ = some (v, σ')) : V.ref σ.length = v ∧ σ ++ [.list acc] = σ' := by
  have := ite_v e
  cases this; exact ⟨rfl, rfl⟩
theorem kComp_case {mit : ME} {loop : Env1 → It → St → Option (β × St)} {mkf : β → St → Option (V × St)} {r : V × St} (e : kComp mit loop mkf ρ σ = some r) {P : Prop} (k : ∀ x σ1 i acc σ2, mit ρ σ = some (x, σ1) → mkIter σ1 x = some i → loop ρ i σ1 = some (acc, σ2) → mkf acc σ2 = some r → P) : P :=
  thn_case e fun x σ1 e1 e => by
    cases e2 : mkIter σ1 x with
    | none => rw [e2] at e; cases e
    | some i => rw [e2] at e; exact thn_case e fun acc σ2 e3 e => k x σ1 i acc σ2 e1 e2 e3 e
theorem newList_snd {Q E : Value → Shared → Prop} {s : Shared} (h : Q (.ref s.heap.objs.size) { s with heap := s.heap.push { cls := .type "list", data := .seq ([] : List Value).toArray } }) : wpAny (model prog w) A (newList []) Q E s := wpAny_newList h (Nat.zero_le _)
theorem newDict_snd {Q E : Value → Shared → Prop} {s : Shared} (h : Q (.ref s.heap.objs.size) { s with heap := s.heap.push { cls := .type "dict", data := .dict #[] } }) : wpAny (model prog w) A newDict Q E s := wpAny_newObj_type h
theorem sndC_lcomp {elt it : Expr} {ifs : List Expr} {me mit : ME} {mi : MT} {nX : PySem.Str} {p q : Pos} (hh : A.handled = none) (hs : HS) (w2 : cwf sc csc fr nv (nIx csc nX) = true) (Hit : SndE A sc it mit) (ok : Okd it mit) (Hifs : SndIfs A csc ifs mi) (He : SndE A csc elt me) :
    SndC A sc (.ListComp elt [⟨.Name nX p, it, ifs, 0⟩] csc q) it csc (newList []) (kLcomp fr nv (nIx csc nX) mit mi me) := fun K I F e h => kComp_case e fun x σ1 i acc σ2 e1 e2 e3 e => by
  obtain ⟨rfl, rfl⟩ := fList_inv e
  exact comp_core (mo := O.list) (loop := fun ρ i σ => cloop (turn (frame ρ fr nv) (nIx csc nX) mi (gL me)) 10000 i σ []) list0 rfl hh hs w2 Hit ok rfl rfl newList_snd codeAny_compStart_list
    (fun C O L e3 hR => codeAny_compLoop_tests _ (fun k s hI => turn_snd C hh (O _ w2) (cwf_at w2) Hifs (list_body C He) hI fun φ' s' ρ' L' _ => hR φ' s' ρ' L') 10000 ⟨_, _, _, _, _, e3, L, fun _ => rfl⟩ fun v => rfl) K I F e1 e2 e3 h
theorem sndC_dcomp {kx vx it : Expr} {ifs : List Expr} {mk' me mit : ME} {mi : MT} {nX : PySem.Str} {p q : Pos} (hh : A.handled = none) (hs : HS) (w2 : cwf sc csc fr nv (nIx csc nX) = true) (Hit : SndE A sc it mit) (ok : Okd it mit) (Hifs : SndIfs A csc ifs mi) (Hk : SndE A csc kx mk') (He : SndE A csc vx me) :
    SndC A sc (.DictComp kx vx [⟨.Name nX p, it, ifs, 0⟩] csc q) it csc newDict (kDcomp fr nv (nIx csc nX) mit mi mk' me) := fun K I F e h => kComp_case e fun x σ1 i acc σ2 e1 e2 e3 e => by
  cases e
  exact comp_core (mo := O.dI) (loop := fun ρ i σ => cloop (turn (frame ρ fr nv) (nIx csc nX) mi (gD mk' me)) 10000 i σ []) (fun φ h a e => ⟨[], dictAt_new _ e, .nil⟩) rfl hh hs w2 Hit ok rfl rfl newDict_snd codeAny_compStart_dict
    (fun C O L e3 hR => codeAny_compLoop_testsD _ (fun k s hI => turn_snd C hh (O _ w2) (cwf_at w2) Hifs (dict_body C Hk He) hI fun φ' s' ρ' L' _ => hR φ' s' ρ' L') 10000 ⟨_, _, _, _, _, e3, L, fun _ => rfl⟩ fun v => rfl) K I F e1 e2 e3 h
end
end
section
set_option maxHeartbeats 2000000
set_option backward.match.sparseCases false
open PySem PySem.W PyProof.Rows PySem.Calls
section
variable {A : Around} {R : Result → Shared → Prop} {s : Shared}
theorem compTurn_in (elt target iter : Expr) (ifs : List Expr) (g : Comprehension) (scope : Scope) (pos : Pos) (it acc : Value) (env : Env) :
    compTurn (.ListComp elt [g, ⟨target, iter, ifs, 0⟩] scope pos) 1 it acc env = (do
      standAt iter.pos
      match ← pyNext it with
      | none => pure (.done .next)
      | some v =>
        letOwnedTupleGo target it v
        assign target env v
        let mut ok := true
        for c in ifs do
          if ok then ok ← PySem.isTrue c env (eval c env)
        if ok then
          (do let _ ← call (.builtin "list.append") [acc, ← eval elt env])
        again (.compLoop (.ListComp elt [g, ⟨target, iter, ifs, 0⟩] scope pos) 1 it acc env)) := by rfl
theorem compTurn_out (elt target iter : Expr) (target2 iter2 : Expr) (ifs2 : List Expr) (scope : Scope) (pos : Pos) (it acc : Value) (env : Env) :
    compTurn (.ListComp elt [⟨target, iter, [], 0⟩, ⟨target2, iter2, ifs2, 0⟩] scope pos) 0 it acc env = (do
      standAt iter.pos
      match ← pyNext it with
      | none => pure (.done .next)
      | some v =>
        letOwnedTupleGo target it v
        assign target env v
        let x ← eval iter2 env
        standAt iter2.pos
        let x ← foldedSetIterable iter2 env x
        let _ ← runOwn (.compStart (.ListComp elt [⟨target, iter, [], 0⟩, ⟨target2, iter2, ifs2, 0⟩] scope pos) 1 (← holding [x] (pyIter x)) acc env) env
        again (.compLoop (.ListComp elt [⟨target, iter, [], 0⟩, ⟨target2, iter2, ifs2, 0⟩] scope pos) 0 it acc env)) := by rfl
theorem wpAny_ifs0 {α : Type} {m : Sem α} {c : α} {P : Shared → Prop} {Q : α → Shared → Prop} {E : Value → Shared → Prop} {env : Env} (hP : ∀ s, P s → Q c s)
    (h : wpAny (model prog w) A (ifsOf [] env) (fun ok s => if ok = true then wpAny (model prog w) A m Q E s else P s) E s) : wpAny (model prog w) A m Q E s := by
  have key : wpAny (model prog w) A (ifsOf [] env >>= fun ok => match ok with | true => m | false => pure c) Q E s := wpAny_bind (wpAny_mono h (fun ok s h => by
    cases ok with
    | true => exact h
    | false => exact wpAny_pure (hP s h)) fun _ _ e => e)
  exact key
theorem compLoop_in {elt target iter : Expr} {ifs : List Expr} {g : Comprehension} {scope : Scope} {pos : Pos} {it acc : Value} {env : Env} (I : Nat → Shared → Prop)
    (turn : ∀ n s, I n s → wpAny (model prog w) A (pyNext it) (fun r s₁ => match r with
      | none => R (.ok .next) s₁
      | some v => wpAny (model prog w) A (assign target env v) (fun _ s₂ =>
          wpAny (model prog w) A (forIn ifs true fun c r => if r = true then do let ok ← PySem.isTrue c env (eval c env); pure (ForInStep.yield ok) else pure (ForInStep.yield r)) (fun ok s₃ =>
            if ok = true then wpAny (model prog w) A (eval elt env) (fun x s₄ =>
              wpAny (model prog w) A (call (.builtin "list.append") [acc, x]) (fun _ s₅ => ∃ m, m < n ∧ I m s₅) (notedBy (model prog w) A env fun e s' => R (.error e) s') s₄) (notedBy (model prog w) A env fun e s' => R (.error e) s') s₃
            else ∃ m, m < n ∧ I m s₃) (notedBy (model prog w) A env fun e s' => R (.error e) s') s₂) (notedBy (model prog w) A env fun e s' => R (.error e) s') s₁) (notedBy (model prog w) A env fun e s' => R (.error e) s') s)
    (n : Nat) (h : I n s) (ht : ∀ v, letOwnedTupleGo target it v = pure () := by intro _; rfl) :
    codeAny (model prog w) A (.compLoop (.ListComp elt [g, ⟨target, iter, ifs, 0⟩] scope pos) 1 it acc env) R s := by
  refine codeAny_loop rfl I (fun n s hI => ?_) n h
  show wpAny _ _ ((compTurn (.ListComp elt [g, ⟨target, iter, ifs, 0⟩] scope pos) 1 it acc env).onRaise (fun x => do noteFrame x env; theTreesLotGoes x)) _ _ s
  refine wpAny_noted ?_
  rw [compTurn_in]
  refine wpAny_bind (wpAny_standAt (wpAny_bind (wpAny_mono (turn n s hI) (fun r s₁ h₁ => ?_) fun _ _ h' => h')))
  cases r with
  | none => exact wpAny_pure h₁
  | some v =>
    refine wpAny_bind (wpAny_of_eq (ht v) ?_)
    refine wpAny_bind (wpAny_mono h₁ (fun _ s₂ h₂ => wpAny_bind (wpAny_mono h₂ (fun ok s₃ h₃ => ?_) fun _ _ h' => h')) fun _ _ h' => h')
    cases ok with
    | false => exact wpAny_pure ⟨rfl, h₃⟩
    | true =>
      exact wpAny_bind (wpAny_bind (wpAny_mono h₃ (fun x s₄ h₄ => wpAny_bind (wpAny_mono h₄ (fun _ s₅ h₅ => wpAny_pure (wpAny_pure ⟨rfl, h₅⟩)) fun _ _ h' => h')) fun _ _ h' => h'))
theorem compStart_in {elt target iter ifs} {g : Comprehension} {scope pos it acc env}
    (h0 : codeAny (model prog w) A (.compLoop (.ListComp elt [g, ⟨target, iter, ifs, 0⟩] scope pos) 1 it acc env) R s)
    (h : wpAny (model prog w) A (pyIter it) (fun it' s' => codeAny (model prog w) A (.compLoop (.ListComp elt [g, ⟨target, iter, ifs, 0⟩] scope pos) 1 it' acc env) R s')
      (notedBy (model prog w) A env fun x s' => R (.error x) s') s) :
    codeAny (model prog w) A (.compStart (.ListComp elt [g, ⟨target, iter, ifs, 0⟩] scope pos) 1 it acc env) R s := by
  refine codeAny_of_tree ?_
  show wpAny _ _ ((compStart (.ListComp elt [g, ⟨target, iter, ifs, 0⟩] scope pos) 1 it acc env).onRaise (fun x => do noteFrame x env; standAt theWindowsPlace)) _ _ s
  refine wpAny_notedAt ?_
  unfold compStart
  show wpAny _ _ (ask >>= _) _ _ s
  refine wpAny_bind (wpAny_askSetting (wpAny_ite ?_))
  split
  · first
      | exact wpAny_bind (wpAny_pure (wpAny_pure (And.intro rfl h0)))
      | exact wpAny_pure (And.intro rfl h0)
  · first
      | exact wpAny_bind (wpAny_rule (wpAny_bind (wpAny_standAt (wpAny_bind (wpAny_mono h (fun it' s' h' => wpAny_pure (And.intro rfl h')) fun _ _ x => x)))))
      | (refine wpAny_bind (wpAny_rule ?_); show wpAny _ _ (standAt iter.pos >>= _) _ _ s; exact wpAny_bind (wpAny_standAt (wpAny_bind (wpAny_mono h (fun it' s' h' => wpAny_pure (And.intro rfl h')) fun _ _ x => x))))
theorem compLoop_out {elt target iter target2 iter2 : Expr} {ifs2 : List Expr} {scope : Scope} {pos : Pos} {it acc : Value} {env : Env} (I : Nat → Shared → Prop)
    (hs : ∀ x, foldedSetIterable iter2 env x = pure x)
    (turn : ∀ n s, I n s → wpAny (model prog w) A (pyNext it) (fun r s₁ => match r with
      | none => R (.ok .next) s₁
      | some v => wpAny (model prog w) A (assign target env v) (fun _ s₂ => wpAny (model prog w) A (ifsOf [] env) (fun ok s₃ => if ok = true then
          wpAny (model prog w) A (eval iter2 env) (fun x s₃ => wpAny (model prog w) A (pyIter x) (fun it2 s₄ =>
            codeAny (model prog w) A (.compStart (.ListComp elt [⟨target, iter, [], 0⟩, ⟨target2, iter2, ifs2, 0⟩] scope pos) 1 it2 acc env) (fun r s' => match r with | .ok _ => ∃ m, m < n ∧ I m s' | .error e => False) s₄)
              (notedBy (model prog w) A env fun e s' => R (.error e) s') s₃) (notedBy (model prog w) A env fun e s' => R (.error e) s') s₃ else ∃ m, m < n ∧ I m s₃) (notedBy (model prog w) A env fun e s' => R (.error e) s') s₂) (notedBy (model prog w) A env fun e s' => R (.error e) s') s₁) (notedBy (model prog w) A env fun e s' => R (.error e) s') s)
    (n : Nat) (h : I n s) (ht : ∀ v, letOwnedTupleGo target it v = pure () := by intro _; rfl) :
    codeAny (model prog w) A (.compLoop (.ListComp elt [⟨target, iter, [], 0⟩, ⟨target2, iter2, ifs2, 0⟩] scope pos) 0 it acc env) R s := by
  refine codeAny_loop rfl I (fun n s hI => ?_) n h
  show wpAny _ _ ((compTurn (.ListComp elt [⟨target, iter, [], 0⟩, ⟨target2, iter2, ifs2, 0⟩] scope pos) 0 it acc env).onRaise (fun x => do noteFrame x env; theTreesLotGoes x)) _ _ s
  refine wpAny_noted ?_
  rw [compTurn_out]
  refine wpAny_bind (wpAny_standAt (wpAny_bind (wpAny_mono (turn n s hI) (fun r s₁ h₁ => ?_) fun _ _ h' => h')))
  cases r with
  | none => exact wpAny_pure h₁
  | some v =>
    refine wpAny_bind (wpAny_of_eq (ht v) ?_)
    refine wpAny_bind (wpAny_mono h₁ (fun _ s₂ h₂ => wpAny_ifs0 (c := PySem.Fin.again (.compLoop (.ListComp elt [⟨target, iter, [], 0⟩, ⟨target2, iter2, ifs2, 0⟩] scope pos) 0 it acc env)) (P := fun s => ∃ m, m < n ∧ I m s) (fun s q => And.intro rfl q) (wpAny_mono h₂ (fun ok s₃ h₃ => ?_) fun _ _ h' => h')) fun _ _ h' => h')
    cases ok with
    | false => exact h₃
    | true =>
    refine wpAny_bind (wpAny_mono h₃ (fun x s₃ h₃ => ?_) fun _ _ h' => h')
    refine wpAny_bind (wpAny_standAt (wpAny_bind (wpAny_of_eq (hs x) ?_)))
    refine wpAny_bind (wpAny_holding (wpAny_mono h₃ (fun it2 s₄ h₄ => ?_) fun _ _ h' => h'))
    refine wpAny_bind (wpAny_runOwn (codeAny_mono h₄ fun r s' hr => ?_))
    cases r with
    | ok f => exact wpAny_pure ⟨rfl, hr⟩
    | error e => exact hr.elim
end
section
variable {h0 hB : Heap} {G : GX} {A : Around} {E : Value → Shared → Prop} {env cenv : Env} {sc csc : Scope} {σ σ' σ1 σ2 : St} {φ φ' φ1 : List Addr} {s s' s1 : Shared} {ρ ρ' ρf : Env1} {v : V} {a D : Addr} {it : It} {its : List (Addr × It)} {fr : List (Nat × Nat)} {nv X Y : Nat}
theorem FR.weaken (F : FR env ρ φ s) (hl : ρ'.length = ρ.length) (h : ∀ (i : Nat) (x : V), ρ'[i]? = some (some x) → ρ[i]? = some (some x)) : FR env ρ' φ s := by
  obtain ⟨m, hn, hm⟩ := F.loc
  refine ⟨fun i hi => ?_, ⟨m, hn, fun i n x h1 h2 => hm i n x h1 (h i x h2)⟩, fun i n k h1 h2 => ?_, F.nl⟩
  · obtain ⟨n, k, h1, h2⟩ := F.kinds i (hl ▸ hi)
    refine ⟨n, k, h1, h2.imp id (Or.imp id fun ⟨q1, q2, q3⟩ => ⟨q1, ?_, q3⟩)⟩
    rw [List.getElem?_eq_getElem hi]
    cases q : ρ'[i] with
    | none => rfl
    | some x => cases q2.symm.trans (h i x (by rw [List.getElem?_eq_getElem hi, q]))
  · obtain ⟨c, v, e1, e2, e3⟩ := F.cel i n k h1 h2
    exact ⟨c, v, e1, e2, fun x hx => e3 x (h i x hx)⟩
theorem setL_none (h : ρf[Y]? = some none) (hXY : X ≠ Y) (hs : ∀ v, setL ρ X v = setL ρf X v) (hX : X < ρf.length) : ρ[Y]? = some none := by
  have h1 := hs .none
  unfold setL at h1
  rw [if_pos hX] at h1
  have h2 := ite_v h1
  rw [← h, ← List.getElem?_set_ne hXY (a := some V.none), ← List.getElem?_set_ne (l := ρf) hXY (a := some V.none), Option.some.inj h2]
theorem slot_none (h : cwf sc csc fr nv Y = true) : (frame ρ fr nv)[Y]? = some none := by
  obtain ⟨hY, n, k, e, hk⟩ := (cwf_ok h).var
  have q := (cwf_ok h).slot Y hY
  unfold slotK at q
  rw [frame_get _ _ _ _ hY]
  have : (fr.lookup Y).isNone = true := by rw [e] at q; rcases hk with rfl | rfl <;> exact q
  rw [Option.isNone_iff_eq_none.mp this]
theorem CL.weaken {β : Type} {mo : β → O} {acc : β} (L : CL mo φ1 s1 env D its ρ σ φ s acc) (hl : ρ'.length = ρ.length) (h : ∀ (i : Nat) (x : V), ρ'[i]? = some (some x) → ρ[i]? = some (some x)) : CL mo φ1 s1 env D its ρ' σ φ s acc :=
  ⟨L.I, L.t, L.F.weaken hl h, L.R, L.nd, L.gt, L.nD⟩
theorem setL_len (hs : ∀ v, setL ρ Y v = setL ρf Y v) (hY : Y < ρf.length) : ρ.length = ρf.length := by
  have h1 := hs .none
  unfold setL at h1
  rw [if_pos hY] at h1
  have := congrArg List.length (Option.some.inj (ite_v h1))
  rwa [List.length_set, List.length_set] at this
theorem unset (hs : ∀ v, setL ρ' Y v = setL ρ Y v) (hY : ρ[Y]? = some none) {i : Nat} {x : V} (h : ρ[i]? = some (some x)) : ρ'[i]? = some (some x) := by
  have hlt := lt_of_get hY
  have h1 := hs .none
  unfold setL at h1
  rw [if_pos hlt] at h1
  have hi : Y ≠ i := fun q => by rw [← q, hY] at h; cases h
  rw [← List.getElem?_set_ne hi (a := some V.none), Option.some.inj (ite_v h1), List.getElem?_set_ne hi]; exact h
theorem nest_body {elt it2 : Expr} {ifs : List Expr} {me mit : ME} {mi : MT} {nX nY : PySem.Str} {pY q : Pos} {g : Comprehension} (C : CK csc env hB φ1 s1 D) (hh : A.handled = none) (hs : HS) (Ow : Own env hB (nIx csc nY)) (w2 : cwf sc csc fr nv (nIx csc nX) = true) (w3 : cwf sc csc fr nv (nIx csc nY) = true) (hXY : nIx csc nX ≠ nIx csc nY)
    (Hit : SndE A csc it2 mit) (Hifs : SndIfs A csc ifs mi) (He : SndE A csc elt me) : BodyOK O.list φ1 s1 env D a its (frame ρf fr nv) (nIx csc nX) (gIn (nIx csc nY) mit mi (gL me))
      fun P s => wpAny (model prog w) A (eval it2 env) (fun x s₃ => wpAny (model prog w) A (pyIter x) (fun it' s₄ =>
            codeAny (model prog w) A (.compStart (.ListComp elt [g, ⟨.Name nY pY, it2, ifs, 0⟩] csc q) 1 it' (.ref D) env) (fun r s' => match r with | .ok _ => P s' | .error e => False) s₄) E s₃) E s :=
  fun {it ρ σ φ s acc acc' σ' P} L hset hf h => thn_case hf fun x σ1 e1 hf => Hit C.K L.I L.F e1 fun z s7 φ7 rz I7 t7 => by
    have L7 := L.stp I7 t7
    cases e2 : mkIter σ1 x with
    | none => rw [e2] at hf; cases hf
    | some i =>
      rw [e2] at hf
      refine iter_snd hs e2 I7 rz fun o R2 => ?_
      have g8 : Nw s7 { s7 with heap := s7.heap.push o } := nw_push s7 o s7.toks s7.drawn
      have L8 := L7.stp (I7.nw' g8 I7.bare) (.nw g8)
      have fa : s1.heap.get? s7.heap.objs.size = none := live_none L7.t.go.live (new_addr _)
      have hX : nIx csc nX < (frame ρf fr nv).length := by rw [frame_len]; exact (cwf_ok w2).var.1
      have hY := setL_none (slot_none (ρ := ρf) w3) hXY hset hX
      have hne : ∀ p ∈ (a, it) :: its, p.1 ≠ s7.heap.objs.size := fun p hp q => by
        obtain ⟨_, _, e, _⟩ := (L7.R p hp).1.ni
        rw [q] at e; exact none_some (new_addr _) e
      have L9 : CL O.list φ1 s1 env D ((s7.heap.objs.size, i) :: (a, it) :: its) ρ σ1 φ7 { s7 with heap := s7.heap.push o } acc := ⟨L8.I, L8.t, L8.F, List.forall_mem_cons.mpr ⟨⟨R2, I7.new (new_addr _), fa, fun q => by
          obtain ⟨_, _, e, _⟩ := L7.gt.there
          rw [← q] at e; exact none_some (new_addr _) e⟩, L8.R⟩, List.nodup_cons.mpr ⟨fun hm => by
          obtain ⟨p, hp, e⟩ := List.mem_map.mp hm
          exact hne p hp e, L8.nd⟩, L8.gt, L8.nD⟩
      have loop : ∀ (k : Nat) (s' : Shared), CInv O.list φ1 s1 env D ((a, it) :: its) s7.heap.objs.size ρ (nIx csc nY) (turn ρ (nIx csc nY) mi (gL me)) (acc', σ') k s' →
          codeAny (model prog w) A (.compLoop (.ListComp elt [g, ⟨.Name nY pY, it2, ifs, 0⟩] csc q) 1 (.ref s7.heap.objs.size) (.ref D) env) (fun r s' => match r with | .ok _ => P s' | .error e => False) s' := fun k s' hI =>
        compLoop_in _ (fun k s hI => turn_snd C hh Ow (cwf_at w3) Hifs (list_body C He) hI fun φ' s' ρ' L' hs => h φ' s' (L'.weaken (setL_len hs (lt_of_get hY)).symm fun i x e => unset hs hY e)) k hI fun v => rfl
      have l0 := loop 10000 _ ⟨i, σ1, acc, φ7, ρ, hf, L9, fun _ => rfl⟩
      exact compStart_in l0 (self_snd hh R2 l0)
theorem sndC_lcomp2 {elt it it2 : Expr} {ifs : List Expr} {me mit mit2 : ME} {mi : MT} {nX nY : PySem.Str} {p p2 q : Pos} (hh : A.handled = none) (hs : HS) (w2 : cwf sc csc fr nv (nIx csc nX) = true) (w3 : cwf sc csc fr nv (nIx csc nY) = true) (hXY : nIx csc nX ≠ nIx csc nY) (Hit : SndE A sc it mit) (ok : Okd it mit) (Hit2 : SndE A csc it2 mit2) (ok2 : Okd it2 mit2) (Hnil : SndIfs A csc [] (tNil true)) (Hifs : SndIfs A csc ifs mi) (He : SndE A csc elt me) (hok : okX it2 = true) :
    SndC A sc (.ListComp elt [⟨.Name nX p, it, [], 0⟩, ⟨.Name nY p2, it2, ifs, 0⟩] csc q) it csc (newList []) (kLcomp2 fr nv (nIx csc nX) mit (nIx csc nY) mit2 mi me) := fun K I F e h => kComp_case e fun x σ1 i acc σ2 e1 e2 e3 e => by
  obtain ⟨rfl, rfl⟩ := fList_inv e
  exact comp_core (mo := O.list) (loop := fun ρ i σ => cloop (turn (frame ρ fr nv) (nIx csc nX) (tNil true) (gIn (nIx csc nY) mit2 mi (gL me))) 10000 i σ []) list0 rfl hh hs w2 Hit ok rfl rfl newList_snd codeAny_compStart_list
    (fun C O L e3 hR => compLoop_out _ (fun x => fold_ok hok) (fun k s hI => turn_snd C hh (O _ w2) (cwf_at w2) Hnil (nest_body C hh hs (O _ w3) w2 w3 hXY Hit2 Hifs He) hI fun φ' s' ρ' L' _ => hR φ' s' ρ' L') 10000 ⟨_, _, _, _, _, e3, L, fun _ => rfl⟩ fun v => rfl) K I F e1 e2 e3 h
end
end
section
set_option maxHeartbeats 2000000
set_option backward.match.sparseCases false
open PySem PySem.W PyProof.Rows PySem.Calls
section
variable {α : Type} {G : GX} {A : Around} {d n : Nat} {sc csc : Scope} {a b x : Expr} {xs : List Expr} {m m' : ME} {p : Pos} {c : CC} {o : Option α} {f : α → ME} {t : Bool} {ds : Bool}
theorem snd_onB (h : t = true → SndE A sc x m) (h' : t = false → SndE A sc x m') : SndE A sc x (onB t m m') := by
  cases t
  · exact h' rfl
  · exact h rfl
theorem snd_onT (h : t = true → SndE A sc x m) : SndE A sc x (onT t m) := snd_onB h fun _ => snd_kX
theorem onO_p {β : Type} {P : β → Prop} {f : α → β} {m : β} (h : ∀ a, o = some a → P (f a)) (h' : o = none → P m) : P (onO o f m) := by
  cases o
  · exact h' rfl
  · exact h _ rfl
theorem snd_onO (h : ∀ a, o = some a → SndE A sc x (f a)) (h' : SndE A sc x m) : SndE A sc x (onO o f m) := onO_p h fun _ => h'
theorem bind_inv {β : Type} {f : α → Option β} {r : β} (h : bind o f = some r) : ∃ a, o = some a ∧ f a = some r := by
  cases o
  · cases h
  · exact ⟨_, rfl, h⟩
theorem hasO_inv {f : α → Bool} (h : hasO o f = true) : ∃ a, o = some a ∧ f a = true := by
  cases o
  · cases h
  · exact ⟨_, rfl, h⟩
theorem ifO_inv {b : Bool} {r r' : α} (h : ifO b r = some r') : b = true ∧ r = r' := by
  cases b
  · cases h
  · cases h; exact ⟨rfl, rfl⟩
theorem one_inv {l : List α} {r : α} (h : one l = some r) : l = [r] := by
  match l, h with
  | [a], h => cases h; rfl
theorem two_inv {l : List α} {r : α × α} (h : two l = some r) : l = [r.1, r.2] := by
  match l, h with
  | [a, b], h => cases h; rfl
theorem nmP_inv {q : PySem.Str × Pos} (h : nmP x = some q) : x = .Name q.1 q.2 := by cases x <;> cases h; rfl
theorem cnP_inv {q : Const × Option Nat × Pos} (h : cnP x = some q) : ∃ j, x = .Constant q.1 j q.2.2 := by cases x <;> cases h; exact ⟨_, rfl⟩
theorem clP_inv {q : Expr × List Expr × List Keyword × Pos} (h : clP x = some q) : x = .Call q.1 q.2.1 q.2.2.1 q.2.2.2 := by cases x <;> cases h; rfl
theorem atP_inv {q : Expr × PySem.Str × Pos} (h : atP x = some q) : x = .Attribute q.1 q.2.1 q.2.2 := by cases x <;> cases h; rfl
theorem slP_inv {q : Option Expr × Option Expr × Option Expr × Pos} (h : slP x = some q) : x = .Slice q.1 q.2.1 q.2.2.1 q.2.2.2 := by cases x <;> cases h; rfl
theorem sbP_inv {q : Expr × Expr × Pos} (h : sbP x = some q) : x = .Subscript q.1 q.2.1 q.2.2 := by cases x <;> cases h; rfl
theorem tpP_inv {q : List Expr × Nat × Pos} (h : tpP x = some q) : x = .Tuple q.1 q.2.1 q.2.2 := by cases x <;> cases h; rfl
theorem and3 {a b c : Bool} (h : (a && b && c) = true) : a = true ∧ b = true ∧ c = true := by
  rw [Bool.and_eq_true, Bool.and_eq_true] at h
  exact ⟨h.1.1, h.1.2, h.2⟩
structure SndB (A : Around) (sc : Scope) (x it : Expr) (csc : Scope) (newAcc : Sem Value) (m : ME) : Prop where
  c : SndC A sc x it csc newAcc m
  e : SndE A sc x m
  u : ∀ {ρ σ r}, m ρ σ = some r → (∀ env n q l, ∃ b, swapsWith x (some (.Name n q)) l env = pure b) ∧ ∀ env u, ∃ pos, evalThenUse x env u = (do let _ ← comprehension x csc env pos newAcc false (eval it env) (some u))
theorem sndB_kX {it : Expr} {N : Sem Value} : SndB A sc x it csc N kX := ⟨(fun _ _ _ e _ => nomatch e), snd_kX, fun e => nomatch e⟩
theorem sndB_onT {it : Expr} {N : Sem Value} (h : t = true → SndB A sc x it csc N m) : SndB A sc x it csc N (onT t m) := by
  cases t
  · exact sndB_kX
  · exact h rfl
theorem sndB_onO {it : Expr} {N : Sem Value} (h : ∀ a, o = some a → SndB A sc x it csc N (f a)) : SndB A sc x it csc N (onO o f kX) := onO_p h fun _ => sndB_kX
theorem SndB.of {it : Expr} {N : Sem Value} (h : SndC A sc x it csc N m) (he : ∀ env, ∃ pos, eval x env = comprehension x csc env pos N false (eval it env) none) (hs : ∀ env n q l, ∃ b, swapsWith x (some (.Name n q)) l env = pure b) (hu : ∀ env u, ∃ pos, evalThenUse x env u = (do let _ ← comprehension x csc env pos N false (eval it env) (some u))) : SndB A sc x it csc N m := ⟨h, SndC.snd h he, fun _ => ⟨hs, hu⟩⟩
noncomputable def itOf : List Comprehension → Expr
  | g :: _ => g.iter
  | [] => .Constant .none 0 default
structure CS (A : Around) (c : CC) : Prop where
  e : ∀ sc x, SndE A sc x (c.e sc x)
  ok : ∀ sc x, Okd x (c.e sc x)
  t : ∀ sc x, SndT A sc x (c.t sc x)
  lc : ∀ sc x gs csc q, SndB A sc (.ListComp x gs csc q) (itOf gs) csc (newList []) (c.e sc (.ListComp x gs csc q))
  dc : ∀ sc a b gs csc q, SndB A sc (.DictComp a b gs csc q) (itOf gs) csc newDict (c.e sc (.DictComp a b gs csc q))
theorem cEs_snd (H : CS A c) : ∀ xs, SndEs A sc xs (cEs c sc xs) := by
  intro xs
  induction xs with
  | nil => exact sndEs_nil
  | cons x r ih => exact sndEs_cons (H.e sc x) (H.ok sc x) ih
theorem lookup_mem {β : Type} {n : PySem.Str} {b : β} {l : List (PySem.Str × β)} (h : l.lookup n = some b) : (n, b) ∈ l := by
  induction l with
  | nil => cases h
  | cons y r ih =>
    rw [List.lookup_cons] at h
    cases q : n == y.1 with
    | true => rw [q] at h; cases h; rw [beq_iff_eq.mp q]; exact List.mem_cons_self
    | false => rw [q] at h; exact List.mem_cons_of_mem _ (ih h)
theorem biOf_name {f : PySem.Str} {k : Nat} {b : BI} (h : biOf f k = some b) : f = biName b := by
  have all : ∀ y ∈ biL k, y.1 = biName y.2 := by
    have hm : ∀ k, (("min" : PySem.Str), (match k with | 2 => BI.min2 | _ => BI.minL)).1 = biName (("min" : PySem.Str), (match k with | 2 => BI.min2 | _ => BI.minL)).2 := fun k => by
      match k with
      | 0 => rfl
      | 1 => rfl
      | 2 => rfl
      | _ + 3 => rfl
    refine List.forall_mem_cons.mpr ⟨rfl, List.forall_mem_cons.mpr ⟨rfl, List.forall_mem_cons.mpr ⟨rfl, List.forall_mem_cons.mpr ⟨hm k, List.forall_mem_cons.mpr ⟨rfl, List.forall_mem_cons.mpr ⟨rfl, List.forall_mem_cons.mpr ⟨rfl, List.forall_mem_cons.mpr ⟨rfl, List.forall_mem_cons.mpr ⟨rfl, fun _ h => absurd h List.not_mem_nil⟩⟩⟩⟩⟩⟩⟩⟩⟩
  exact all _ (lookup_mem h)
theorem miOf_name {f : PySem.Str} {b : MI} (h : miOf f = some b) : f = miName b := by
  have all : ∀ y ∈ miL, y.1 = miName y.2 := List.forall_mem_cons.mpr ⟨rfl, List.forall_mem_cons.mpr ⟨rfl, List.forall_mem_cons.mpr ⟨rfl, List.forall_mem_cons.mpr ⟨rfl, fun _ h => absurd h List.not_mem_nil⟩⟩⟩⟩
  exact all _ (lookup_mem h)
theorem valsOf_inv (h : valsOf x = some a) : ∃ q r, x = .Call (.Attribute a "values" q) [] [] r ∧ (q.endLine == r.line) = true ∧ okB a = true := by
  obtain ⟨c, hc, h⟩ := bind_inv h
  obtain ⟨t, ht, h⟩ := bind_inv h
  obtain ⟨w, h⟩ := ifO_inv h
  obtain ⟨w1, w2, w3⟩ := and3 w
  obtain ⟨w3, w4, w5⟩ := and3 w3
  subst h
  refine ⟨t.2.2, c.2.2.2, ?_, w4, w5⟩
  rw [clP_inv hc, atP_inv ht, List.isEmpty_iff.mp w1, List.isEmpty_iff.mp w2, beq_iff_eq.mp w3]
theorem gnm_inv {g : Comprehension} {X : PySem.Str} (h : gnm g = some X) : ∃ p, g = ⟨.Name X p, g.iter, g.ifs, 0⟩ := by
  obtain ⟨t, it, ifs, as⟩ := g
  obtain ⟨q, hq, h⟩ := bind_inv h
  obtain ⟨w, h⟩ := ifO_inv h
  subst h
  obtain rfl := nmP_inv hq
  obtain rfl : as = 0 := of_decide_eq_true w
  exact ⟨q.2, rfl⟩
theorem isFl_inv (h : isFl sc a = true) : ∃ p', a = .Name flN p' ∧ gk sc flN = true := by
  obtain ⟨q, hq, h⟩ := hasO_inv h
  have w := Bool.and_eq_true_iff.mp h
  exact ⟨q.2, (nmP_inv hq).trans (by rw [beq_iff_eq.mp w.1]), w.2⟩
theorem isNone_inv (h : isNone a = true) : ∃ j p, a = .Constant .none j p := by
  obtain ⟨⟨v, j, p⟩, hq, h⟩ := hasO_inv h
  obtain ⟨j, rfl⟩ := cnP_inv hq
  cases v with
  | none => exact ⟨j, p, rfl⟩
  | _ => cases h
theorem slice_snd {l u st : Option Expr} {q : Pos} (g : GK G d) (H : CS A c) : SndE A sc (.Subscript a (.Slice l u st q) p) (cSlice G c sc a l u st) := by
  cases st with
  | some _ => exact snd_kX
  | none =>
    cases l with
    | none =>
      cases u with
      | none => exact snd_kX
      | some u => exact snd_slR g (H.e sc a) (H.e sc u)
    | some l =>
      cases u with
      | none => exact snd_slL (H.e sc a) (H.e sc l)
      | some u => exact snd_slB (H.e sc a) (H.e sc l) (H.e sc u)
theorem sub_snd {i : Expr} (g : GK G d) (H : CS A c) : SndE A sc (.Subscript a i p) (cSub G c sc a i) :=
  snd_onO (fun q h => by rw [slP_inv h]; exact slice_snd g H) (snd_idx (H.e sc a) (H.e sc _) (H.ok sc _))
theorem sum_snd {p' : Pos} (g : GK G d) (R : RoomA A d) (H : CS A c) (w1 : gk sc "sum" = true) : SndE A sc (.Call (.Name "sum" p') xs [] p) (cSum c sc xs) :=
  snd_onO (fun y h => snd_onO (fun a h' => by
    obtain ⟨q, r, e, h1, h2⟩ := valsOf_inv h'
    rw [one_inv h, e]
    exact snd_sumVals g R w1 h2 h1 (H.e sc a)) snd_kX) snd_kX
theorem callN_snd {f : PySem.Str} {p' : Pos} (g : GK G d) (R : RoomA A d) (H : CS A c) : SndE A sc (.Call (.Name f p') xs [] p) (cCallN G c sc f xs) := by
  refine snd_onT fun w => ?_
  obtain ⟨w1, w2, w3⟩ := and3 w
  cases xs with
  | nil => cases w2
  | cons y r =>
    have ok := Bool.and_eq_true_iff.mp w3
    show SndE A sc _ (onB _ _ _)
    refine snd_onB ?_ ?_
    · exact fun h => snd_callG g R w1 h ok.1 (cEs_snd H _)
    intro _
    show SndE A sc _ (onO _ _ _)
    refine snd_onO ?_ ?_
    · exact fun bi h => snd_callB g R w1 (biOf_name h) ok.1 ok.2 (cEs_snd H _)
    show SndE A sc _ (onT _ _)
    refine snd_onT fun h => ?_
    obtain rfl := beq_iff_eq.mp h
    exact sum_snd g R H w1
theorem flag_snd {m : PySem.Str} {p' q : Pos} (g : GK G d) (H : CS A c) (hq : (q.endLine == p.line) = true) (w1 : gk sc flN = true) : SndE A sc (.Call (.Attribute (.Name flN p') m q) xs [] p) (cFlag G c sc m xs) :=
  snd_onO (fun r h => snd_onT fun w => by
    obtain ⟨g1, g2, g3⟩ := and3 w
    obtain rfl := beq_iff_eq.mp g1
    rw [two_inv h]
    exact snd_flagGet g w1 hq g2 g3 (H.e sc _) (H.e sc _)) snd_kX
theorem meth_snd {m : PySem.Str} {q : Pos} (g : GK G d) (H : CS A c) (hq : (q.endLine == p.line) = true) : SndE A sc (.Call (.Attribute a m q) xs [] p) (cMeth G c sc a m xs) := by
  refine snd_onB (fun h => ?_) fun _ => snd_onO (fun mi h => snd_onT fun w => ?_) snd_kX
  · obtain ⟨p', rfl, w1⟩ := isFl_inv h
    exact flag_snd g H hq w1
  · obtain ⟨g1, g2, g3⟩ := and3 w
    obtain rfl := miOf_name h
    exact snd_meth g g3 hq g1 g2 (H.e sc a) (cEs_snd H xs)
theorem call_snd {f : Expr} (g : GK G d) (R : RoomA A d) (H : CS A c) : SndE A sc (.Call f xs [] p) (cCall G c sc f xs p) :=
  snd_onO (fun q h => by rw [nmP_inv h]; exact callN_snd g R H) (snd_onO (fun q h => snd_onT fun w => by rw [atP_inv h]; exact meth_snd g H w) snd_kX)
theorem or_snd {op : BoolOp} (H : CS A c) : SndE A sc (.BoolOp op xs p) (cOr c sc op xs) := by
  cases op with
  | And => exact snd_kX
  | Or => exact snd_onO (fun q h => snd_onT fun w => by
      obtain ⟨j, r, e⟩ := isNone_inv w
      rw [two_inv h, e]
      exact snd_orN (H.e sc _)) snd_kX
theorem ifs_snd (H : CS A c) : ∀ xs, SndIfs A sc xs (cTs c sc true xs) := sndIfs_all (H.t sc)
theorem lc1_snd {g : Comprehension} {q : Pos} (R : RoomA A d) (hs : HS) (H : CS A c) : SndB A sc (.ListComp x [g] csc q) g.iter csc (newList []) (cLc1 c sc csc x g) :=
  sndB_onO fun X hX => sndB_onT fun w2 => by
    obtain ⟨p, hg⟩ := gnm_inv hX
    rw [hg]
    exact SndB.of (sndC_lcomp R.hh hs w2 (H.e sc _) (H.ok sc _) (ifs_snd H _) (H.e csc x)) (fun _ => ⟨_, rfl⟩) (fun _ _ _ _ => ⟨_, rfl⟩) fun _ _ => ⟨_, rfl⟩
theorem lc2_snd {g g2 : Comprehension} {q : Pos} (R : RoomA A d) (hs : HS) (H : CS A c) : SndB A sc (.ListComp x [g, g2] csc q) g.iter csc (newList []) (cLc2 c sc csc x g g2) :=
  sndB_onO fun X hX => sndB_onO fun Y hY => sndB_onT fun w => by
    obtain ⟨w, w4, w5⟩ := and3 w
    obtain ⟨w1, w2, w3⟩ := and3 w
    obtain ⟨p, hg⟩ := gnm_inv hX
    obtain ⟨p2, hg2⟩ := gnm_inv hY
    rw [List.isEmpty_iff.mp w1] at hg
    rw [hg, hg2]
    exact SndB.of (sndC_lcomp2 R.hh hs w2 w3 (of_decide_eq_true w4) (H.e sc _) (H.ok sc _) (H.e csc _) (H.ok csc _) (ifs_snd H []) (ifs_snd H _) (H.e csc x) w5) (fun _ => ⟨_, rfl⟩) (fun _ _ _ _ => ⟨_, rfl⟩) fun _ _ => ⟨_, rfl⟩
theorem lc_snd {gs : List Comprehension} {q : Pos} (R : RoomA A d) (hs : HS) (H : CS A c) : SndB A sc (.ListComp x gs csc q) (itOf gs) csc (newList []) (cLc c sc csc x gs) :=
  onO_p (P := SndB A sc _ _ csc _) (fun g h => by rw [one_inv h]; exact lc1_snd R hs H) fun _ => sndB_onO fun r h => by rw [two_inv h]; exact lc2_snd R hs H
theorem dc_snd {gs : List Comprehension} {q : Pos} (R : RoomA A d) (hs : HS) (H : CS A c) : SndB A sc (.DictComp a b gs csc q) (itOf gs) csc newDict (cDc c sc csc a b gs) :=
  sndB_onO fun g h => sndB_onO fun X hX => sndB_onT fun w2 => by
    obtain ⟨p, hg⟩ := gnm_inv hX
    rw [one_inv h, hg]
    exact SndB.of (sndC_dcomp R.hh hs w2 (H.e sc _) (H.ok sc _) (ifs_snd H _) (H.e csc a) (H.e csc b)) (fun _ => ⟨_, rfl⟩) (fun _ _ _ _ => ⟨_, rfl⟩) fun _ _ => ⟨_, rfl⟩
theorem cmpE_snd {ops : List CmpOp} {q : Pos} (g : GK G d) (R : RoomA A d) (H : CS A c) : SndE A sc (.Compare a ops xs q) (cCmp c sc a ops xs) :=
  snd_onO (fun op h => snd_onO (fun b h' => by rw [one_inv h, one_inv h']; exact snd_cmp g R (H.e sc a) (H.e sc _) (H.ok sc _)) snd_kX) snd_kX
theorem upE_snd (g : GK G d) (R : RoomA A d) (H : CS A c) (sc : Scope) (x : Expr) : SndE A sc x (upE G ds c sc x) := by
  cases x with
  | Constant v _ _ => exact snd_const
  | Name n _ => exact snd_name g
  | BinOp a op b _ => exact snd_bin (H.e sc a) (H.e sc b)
  | UnaryOp op a _ =>
    cases op with
    | USub => exact snd_neg (H.e sc a)
    | _ => exact snd_kX
  | BoolOp op xs _ => exact or_snd H
  | Compare a ops bs _ => exact cmpE_snd g R H
  | IfExp t a b _ => exact snd_ite (H.t sc t) (H.e sc a) (H.e sc b)
  | Subscript a i _ => exact sub_snd g H
  | List xs _ => exact snd_list (cEs_snd H xs)
  | Tuple xs _ _ => exact snd_tup (cEs_snd H xs)
  | Dict ks vs _ =>
    exact snd_onT fun w => by
      rw [List.isEmpty_iff.mp (Bool.and_eq_true_iff.mp w).1, List.isEmpty_iff.mp (Bool.and_eq_true_iff.mp w).2]
      exact snd_dict0
  | Call f xs kws p =>
    exact snd_onT fun w => by rw [List.isEmpty_iff.mp w]; exact call_snd g R H
  | ListComp elt gs csc _ => exact (lc_snd R g.sys H).e
  | DictComp k v gs csc _ => exact (dc_snd R g.sys H).e
  | _ => exact snd_kX
theorem sndT_onO {mt : MT} {f : α → MT} (h : ∀ a, o = some a → SndT A sc x (f a)) (h' : SndT A sc x mt) : SndT A sc x (onO o f mt) := onO_p h fun _ => h'
theorem cmpT_snd {ops : List CmpOp} {q : Pos} (g : GK G d) (R : RoomA A d) (H : CS A c) : SndT A sc (.Compare a ops xs q) (cCmpT c sc a ops xs) :=
  sndT_onO (fun op h => sndT_onO (fun b h' => by rw [one_inv h, one_inv h']; exact sndT_cmp g R (H.e sc a) (H.e sc _) (H.ok sc _)) sndT_tX)
    (sndT_onO (fun o h => sndT_onO (fun b h' => sndT_onO (fun _ w => by rw [two_inv h, two_inv h']; exact sndT_cmp2 g R (H.e sc a) (H.e sc _) (H.e sc _) (H.ok sc _) (ifO_inv w).1) sndT_tX) sndT_tX) sndT_tX)
theorem upT_snd (g : GK G d) (R : RoomA A d) (H : CS A c) (sc : Scope) (x : Expr) : SndT A sc x (upT G ds c sc x) := by
  cases x with
  | UnaryOp op a _ =>
    cases op with
    | Not => exact sndT_not (H.t sc a)
    | _ => exact sndT_tX
  | BoolOp op xs _ =>
    cases op with
    | And => exact fun K I F e h => wpAny_isTrue_BoolOp (sndT_all (H.t sc) true xs K I F e h)
    | Or => exact fun K I F e h => wpAny_isTrue_BoolOp (sndT_all (H.t sc) false xs K I F e h)
  | Compare a ops bs _ => exact cmpT_snd g R H
  | BinOp a op b _ => exact sndT_val (upE_snd g R H sc _) rfl
  | Name n _ => exact sndT_val (upE_snd g R H sc _) rfl
  | Subscript a i _ => exact sndT_val (upE_snd g R H sc _) rfl
  | Call f xs kws p => exact sndT_val (upE_snd g R H sc _) rfl
  | _ => exact sndT_tX
theorem cx_snd (g : GK G d) (R : RoomA A d) : ∀ n, CS A (cx G ds n) := by
  intro n
  induction n with
  | zero => exact ⟨fun _ _ => snd_kX, fun _ _ => (fun e => nomatch e), fun _ _ => sndT_tX, fun _ _ _ _ _ => sndB_kX, fun _ _ _ _ _ _ => sndB_kX⟩
  | succ n ih => exact ⟨upE_snd g R ih, fun _ _ => upE_ok, upT_snd g R ih, fun _ _ _ _ _ => lc_snd R g.sys ih, fun _ _ _ _ _ _ => dc_snd R g.sys ih⟩
end
end
section
set_option maxHeartbeats 2000000
set_option backward.match.sparseCases false
open PySem PySem.W PyProof.Rows PySem.Calls
noncomputable def sX : MS := fun _ => none
noncomputable def onS (b : Bool) (m : MS) : MS := match b with
  | true => m
  | false => sX
noncomputable def okC : Expr → Bool
  | .ListComp .. | .SetComp .. | .DictComp .. | .GeneratorExp .. => false
  | _ => true
noncomputable def okA : Expr → Bool
  | .SetComp .. | .GeneratorExp .. => false
  | _ => true
noncomputable def nmsOf : List Expr → Option (List PySem.Str)
  | [] => some []
  | x :: xs => bind (nmP x) fun q => (nmsOf xs).map fun r => q.1 :: r
noncomputable def ixs (sc : Scope) (ns : List PySem.Str) : List Nat := ns.map (nIx sc)
noncomputable def isLoc (sc : Scope) (n : PySem.Str) : Bool := sc.names.lookup n == some .local
noncomputable def onI {α : Type} (o : Option α) (f : α → MS) : MS := onO o f sX
section
variable (G : GX) (c : CC) (sc : Scope) (k : List Stmt → MS)
noncomputable def cSwap (ts : List Expr) (xs : List Expr) : MS := onI (two ts) fun t => onI (two xs) fun u => onI (nmP t.1) fun i => onI (nmP t.2) fun j => onI (nmP u.1) fun a => onI (nmP u.2) fun b =>
  onS (isLoc sc i.1 && isLoc sc j.1 && !(i.1 == j.1) && (i.2.line == j.2.line)) (sSwap (nIx sc i.1) (nIx sc j.1) (kVar (nIx sc a.1)) (kVar (nIx sc b.1)))
noncomputable def cAsgT (ts : List Expr) (e : Expr) : MS := onO (tpP e) (fun q => onS (decide (q.2.1 = 0)) (cSwap sc ts q.1)) (onS (okC e) (onI (nmsOf ts) fun ns => sAsgT (ixs sc ns) (c.e sc e)))
noncomputable def cAsg1 (t e : Expr) : MS := onO (nmP t) (fun q => onS (okA e) (sAsg (nIx sc q.1) (c.e sc e))) (onO (sbP t) (fun q => onS (okC e) (sSub (c.e sc q.1) (c.e sc q.2.1) (c.e sc e)))
  (onI (tpP t) fun q => onS (decide (q.2.1 = 0)) (cAsgT c sc q.1 e)))
noncomputable def cAsg (ts : List Expr) (e : Expr) : MS := onO (one ts) (fun t => cAsg1 c sc t e) (onI (two ts) fun t => onI (nmP t.1) fun n => onI (nmP t.2) fun m => sAsg2 (nIx sc n.1) (nIx sc m.1) (c.e sc e))
noncomputable def escOf (x : Expr) : Option Expr := bind (clP x) fun c => bind (nmP c.1) fun q => bind (one c.2.1) fun e => ifO (c.2.2.1.isEmpty && (q.1 == genN && gk sc genN && okX e)) e
noncomputable def cForT (it : Expr) (b : List Stmt) (ns : List PySem.Str) : MS := onO (escOf sc it) (fun e => onI (two ns) fun p => sEsc (nIx sc p.1) (nIx sc p.2) (c.e sc e) (k b)) (sForT (ixs sc ns) (c.e sc it) (k b))
noncomputable def cFor (t it : Expr) (b o : List Stmt) : MS := onO (nmP t) (fun q => sFor (nIx sc q.1) (c.e sc it) (k b) (k o)) (onI (tpP t) fun q => onS (decide (q.2.1 = 0) && o.isEmpty) (onI (nmsOf q.1) (cForT c sc k it b)))
noncomputable def upS (st : Stmt) : MS := match st with
  | .Assign ts e _ => cAsg c sc ts e
  | .AugAssign t op e _ => onI (nmP t) fun q => sAug (nIx sc q.1) op (c.e sc e)
  | .Expr e _ => onS (okC e) (sExpr (c.e sc e))
  | .If t b o _ => sIf (c.t sc t) (k b) (k o)
  | .While t b o _ => onS o.isEmpty (sWh (c.t sc t) (k b))
  | .For t it b o _ => cFor c sc k t it b o
  | .Return v _ => onI v fun e => sRet (c.e sc e)
  | .Break _ => sBrk
  | _ => sX
noncomputable def cSs (u : Stmt → MS) : List Stmt → MS
  | [] => sNil
  | s :: ss => sCons (u s) (cSs u ss)
end
noncomputable def sx (G : GX) (ds : Bool) : Nat → Scope → List Stmt → MS
  | 0 => fun _ _ => sX
  | n + 1 => fun sc => cSs (upS (cx G ds n) sc (sx G ds n sc))
structure StB (env : Env) (h0 : Heap) (φ : List Addr) (s : Shared) (φ' : List Addr) (s' : Shared) : Prop where
  ext : Ext φ s φ'
  keep : ∀ a o, s.heap.get? a = some o → a ∉ φ → (¬ Mine1 env a ∨ ∃ o', h0.get? a = some o') → s'.heap.get? a = some o
  live : ∀ a o, s.heap.get? a = some o → ∃ o', s'.heap.get? a = some o'
  os : s'.os = s.os
  gens : ∀ (i : Nat) (g : GenState), s.gens[i]? = some g → s'.gens[i]? = some g
inductive FlR (φ : List Addr) (s : Shared) : Fl → Flow → Prop
  | next : FlR φ s .next .next
  | brk : FlR φ s .brk .brk
  | ret {v : V} {x : Value} : VR φ s.heap v x → FlR φ s (.ret v) (.ret x)
structure Frm (sc : Scope) (env : Env) (h0 : Heap) : Prop where
  K : EnvOK sc env h0
  O : ∀ i, Own env h0 i
  H : Hb h0
noncomputable def PF (env : Env) (h0 : Heap) (φ : List Addr) (s : Shared) (fl : Fl) (ρ' : Env1) (σ' : St) (Q : Flow → Shared → Prop) : Prop := ∀ f s' φ', FlR φ' s' fl f → SR σ' φ' s' → FR env ρ' φ' s' → StB env h0 φ s φ' s' → Q f s'
structure SndS (A : Around) (sc : Scope) (st : Stmt) (m : MS) : Prop where
  run : ∀ {env : Env} {h0 : Heap} {ρ : Env1} {σ : St} {φ : List Addr} {s : Shared} {fl : Fl} {ρ' : Env1} {σ' : St} {Q : Flow → Shared → Prop} {E : Value → Shared → Prop},
    Frm sc env h0 → SR σ φ s → FR env ρ φ s → m (ρ, σ) = some (fl, ρ', σ') → PF env h0 φ s fl ρ' σ' Q → wpAny (model prog w) A (exec st env) Q E s
structure SndSs (A : Around) (sc : Scope) (ss : List Stmt) (m : MS) : Prop where
  run : ∀ {env : Env} {h0 : Heap} {ρ : Env1} {σ : St} {φ : List Addr} {s : Shared} {fl : Fl} {ρ' : Env1} {σ' : St} {Q : Flow → Shared → Prop} {E : Value → Shared → Prop},
    Frm sc env h0 → SR σ φ s → FR env ρ φ s → m (ρ, σ) = some (fl, ρ', σ') → PF env h0 φ s fl ρ' σ' Q → wpAny (model prog w) A (execs ss env) Q E s
section
variable {h0 : Heap} {G : GX} {A : Around} {E : Value → Shared → Prop} {env : Env} {sc : Scope} {σ σ' : St} {φ φ' φ'' : List Addr} {s s' s'' : Shared} {ρ ρ' : Env1} {d i j : Nat} {v : V} {fl : Fl} {Q : Flow → Shared → Prop} {e a b : Expr} {m ma mb' : ME} {p : Pos} {st : Stmt} {ss so : List Stmt} {ms mo : MS} {mt : MT}
theorem StB.refl (env : Env) (h0 : Heap) (φ : List Addr) (s : Shared) : StB env h0 φ s φ s := ⟨.refl φ s, fun _ _ e _ _ => e, fun _ o e => ⟨o, e⟩, rfl, fun _ _ e => e⟩
theorem StB.trans (a : StB env h0 φ s φ' s') (b : StB env h0 φ' s' φ'' s'') : StB env h0 φ s φ'' s'' :=
  ⟨a.ext.trans b.ext a.live, fun x o e n m => b.keep x o (a.keep x o e n m) (a.ext.notin n e) m, fun x o e => Exists.elim (a.live x o e) fun o' e' => b.live x o' e', b.os.trans a.os, fun i g e => b.gens i g (a.gens i g e)⟩
theorem StB.of (t : Stp φ s φ' s') : StB env h0 φ s φ' s' := ⟨t.ext, fun a o e n _ => t.go.keep a o e n, t.go.live, t.go.os, t.go.gens⟩
theorem StB.store (g : Go (fun a => a ∉ φ ∧ h0.get? a = none ∧ Mine1 env a) s s') : StB env h0 φ s φ s' :=
  ⟨.refl φ s, fun a o e n m => g.keep a o e fun p => m.elim (fun m => m p.2.2) fun ⟨o', e'⟩ => none_some p.2.1 e', g.live, g.os, g.gens⟩
theorem PF.after (h : PF env h0 φ s fl ρ' σ' Q) (t : StB env h0 φ s φ' s') : PF env h0 φ' s' fl ρ' σ' Q := fun f s2 φ2 hf I F t2 => h f s2 φ2 hf I F (t.trans t2)
theorem PF.stp (h : PF env h0 φ s fl ρ' σ' Q) (t : Stp φ s φ' s') : PF env h0 φ' s' fl ρ' σ' Q := h.after (.of t)
theorem PF.done {x : Flow} (h : PF env h0 φ s fl ρ σ Q) (hf : FlR φ s fl x) (I : SR σ φ s) (F : FR env ρ φ s) : Q x s := h x s φ hf I F (.refl env h0 φ s)
theorem PF.next (h : PF env h0 φ s .next ρ σ Q) (I : SR σ φ s) (F : FR env ρ φ s) : Q .next s := h.done .next I F
theorem put_snd {n : PySem.Str} {Q : Unit → Shared → Prop} {z : Value} (W : Frm sc env h0) (I : SR σ φ s) (F : FR env ρ φ s) (a : At sc i n) (e : setL ρ i v = some ρ') (r : VR φ s.heap v z)
    (h : ∀ s', SR σ φ s' → FR env ρ' φ s' → StB env h0 φ s φ s' → ImmK s.heap s'.heap → Q () s') : wpAny (model prog w) A (storeName env n z) Q E s :=
  store_snd W.K (W.O i) W.H I F a e r fun s' I' F' g im _ => h s' I' F' (.store g) im
theorem set_in {n : PySem.Str} (K : EnvOK sc env h0) (F : FR env ρ φ s) (e : setL ρ (nIx sc n) v = some ρ') : At sc (nIx sc n) n := nIx_in K F (setL_inv e).1 rfl
theorem nxt_inv {r : Fl × Env1 × St} (e : nxt ρ i v σ = some r) : ∃ ρ', setL ρ i v = some ρ' ∧ (.next, ρ', σ) = r := map_inv e
theorem swaps_no {t : Option PySem.Expr} {l : Nat} (h : okC e = true) : swapsWith e t l env = pure false := by
  cases e <;> first | rfl | cases h
theorem nxt_snd {n : PySem.Str} {r : Fl × Env1 × St} {z : Value} {Q : Unit → Shared → Prop} (W : Frm sc env h0) (I : SR σ φ s) (F : FR env ρ φ s) (e : nxt ρ (nIx sc n) v σ = some r) (rz : VR φ s.heap v z)
    (h : ∀ ρ' s', r = (.next, ρ', σ) → SR σ φ s' → FR env ρ' φ s' → StB env h0 φ s φ s' → Q () s') : wpAny (model prog w) A (storeName env n z) Q E s := by
  obtain ⟨ρ', e2, rfl⟩ := nxt_inv e
  exact put_snd W I F (set_in W.K F e2) e2 rz fun s' I' F' t _ => h ρ' s' rfl I' F' t
theorem sndS_sX : SndS A sc st sX := ⟨fun _ _ _ e _ => nomatch e⟩
theorem sndS_onS {t : Bool} (h : t = true → SndS A sc st ms) : SndS A sc st (onS t ms) := by
  cases t
  · exact sndS_sX
  · exact h rfl
theorem sndS_onO {α : Type} {o : Option α} {f : α → MS} (h : ∀ a, o = some a → SndS A sc st (f a)) (h' : o = none → SndS A sc st ms) : SndS A sc st (onO o f ms) := onO_p h h'
theorem sndS_onI {α : Type} {o : Option α} {f : α → MS} (h : ∀ a, o = some a → SndS A sc st (f a)) : SndS A sc st (onI o f) := onO_p h fun _ => sndS_sX
theorem sndS_assign0 {n : PySem.Str} {q : Pos} (hc : okC e = true) (He : SndE A sc e m) : SndS A sc (.Assign [.Name n q] e p) (sAsg (nIx sc n) m) := ⟨fun W I F ex h =>
  thn_case ex fun v σ1 e1 ex => wpAny_Assign_Name (He W.K I F e1 fun z s1 φ1 r1 I1 t1 => nxt_snd W I1 (F.stp I t1) ex r1 fun ρ2 s2 e I2 F2 t2 => by
    cases e
    exact ((h.stp t1).after t2).next I2 F2) (swaps_no hc)⟩
theorem sndS_assignSub {q : Pos} (hc : okC e = true) (Ha : SndE A sc a ma) (Hi : SndE A sc b mb') (He : SndE A sc e m) : SndS A sc (.Assign [.Subscript a b q] e p) (sSub ma mb' m) := ⟨fun W I F ex h =>
  thn_case ex fun v σ1 e1 ex => thn_case ex fun x σ2 e2 ex => thn_case ex fun y σ3 e3 ex => Exists.elim (map_inv ex) fun σ4 q =>
    wpAny_Assign_Subscript (He W.K I F e1 fun z1 s1 φ1 r1 I1 t1 => Ha W.K I1 (F.stp I t1) e2 fun z2 s2 φ2 r2 I2 t2 => Hi W.K I2 (F.stp I (t1.trans t2)) e3 fun z3 s3 φ3 r3 I3 t3 =>
      storeV_snd q.1 I3 (r2.stp I2 t3) r3 ((r1.stp I1 t2).stp I2 t3) fun s4 I4 g4 => by
        have t := ((t1.trans t2).trans t3).trans g4
        cases q.2
        exact (h.stp t).next I4 (F.stp I t)) (swaps_no hc)⟩
theorem sndS_assign2 {n n2 : PySem.Str} {q q2 : Pos} (He : SndE A sc e m) : SndS A sc (.Assign [.Name n q, .Name n2 q2] e p) (sAsg2 (nIx sc n) (nIx sc n2) m) := ⟨fun W I F ex h =>
  thn_case ex fun v σ1 e1 ex => wpAny_Assign_two (He W.K I F e1 fun z s1 φ1 r1 I1 t1 => by
    cases e2 : setL _ (nIx sc n) v with
    | none => rw [e2] at ex; cases ex
    | some ρ1 =>
      rw [e2] at ex
      have F1 := F.stp I t1
      exact wpAny_assign_Name (put_snd W I1 F1 (set_in W.K F1 e2) e2 r1 fun s2 I2 F2 t2 im2 => wpAny_assign_Name (nxt_snd W I2 F2 ex (r1.mono (.refl φ1) im2) fun ρ3 s3 e I3 F3 t3 => by
        cases e
        exact (((h.stp t1).after t2).after t3).next I3 F3))) rfl rfl⟩
theorem sndS_aug {n : PySem.Str} {op : Operator} {q : Pos} (He : SndE A sc e m) : SndS A sc (.AugAssign (.Name n q) op e p) (sAug (nIx sc n) op m) := ⟨fun {env h0 ρ σ φ s fl ρ' σ' Q E} W I F ex h => by
  unfold sAug at ex
  cases e0 : ρ[nIx sc n]? with
  | none => rw [e0] at ex; cases ex
  | some o =>
    rw [e0] at ex
    cases o with
    | none => cases ex
    | some x =>
      refine thn_case ex fun y σ1 e1 ex => wpAny_AugAssign_Name (ld_snd W.K F (nIx_in W.K F (lt_of_get e0) rfl) e0 fun z0 r0 => He W.K I F e1 fun z s1 φ1 r1 I1 t1 => ?_)
      cases e2 : augV op x y with
      | none => rw [e2] at ex; cases ex
      | some v =>
        rw [e2] at ex
        exact augV_snd e2 I1 (r0.stp I t1) r1 fun z2 s2 φ2 r2 I2 t2 => nxt_snd W I2 (F.stp I (t1.trans t2)) ex r2 fun ρ3 s3 e I3 F3 t3 => by
          cases e
          exact ((h.stp (t1.trans t2)).after t3).next I3 F3⟩
theorem sndS_expr (hc : okC e = true) (He : SndE A sc e m) : SndS A sc (.Expr e p) (sExpr m) := ⟨fun W I F ex h =>
  thn_case ex fun v σ1 e1 ex => by
    cases ex
    exact wpAny_Expr_any (He W.K I F e1 fun z s1 φ1 r1 I1 t1 => (h.stp t1).next I1 (F.stp I t1)) (by unfold interactive; rw [W.K.fn]; rfl) (swaps_no hc)⟩
theorem sndS_ret (He : SndE A sc e m) : SndS A sc (.Return (some e) p) (sRet m) := ⟨fun W I F ex h =>
  thn_case ex fun v σ1 e1 ex => by
    cases ex
    exact wpAny_Return_some (He W.K I F e1 fun z s1 φ1 r1 I1 t1 => (h.stp t1).done (.ret r1) I1 (F.stp I t1))⟩
theorem sndS_brk : SndS A sc (.Break p) sBrk := ⟨fun W I F ex h => by
  cases ex
  exact wpAny_Break (h.done .brk I F)⟩
theorem sndS_if {c : Expr} (Hc : SndT A sc c mt) (Hb : SndSs A sc ss ms) (Ho : SndSs A sc so mo) : SndS A sc (.If c ss so p) (sIf mt ms mo) := ⟨fun W I F ex h =>
  thn_case ex fun t σ1 e1 ex => wpAny_If (Hc W.K I F e1 fun s1 φ1 I1 t1 => by
    cases t with
    | true => rw [if_pos rfl]; exact Hb.run W I1 (F.stp I t1) ex (h.stp t1)
    | false => rw [if_neg (by decide)]; exact Ho.run W I1 (F.stp I t1) ex (h.stp t1))⟩
theorem sndSs_nil : SndSs A sc [] sNil := ⟨fun W I F ex h => by
  cases ex
  exact wpAny_execs_nil (h.next I F)⟩
theorem sndSs_cons (Hs : SndS A sc st ms) (Hss : SndSs A sc ss mo) : SndSs A sc (st :: ss) (sCons ms mo) := ⟨fun {env h0 ρ σ φ s fl ρ' σ' Q E} W I F ex h => by
  unfold sCons at ex
  cases e1 : ms (ρ, σ) with
  | none => rw [e1] at ex; cases ex
  | some q =>
    obtain ⟨f1, ρ1, σ1⟩ := q
    rw [e1] at ex
    refine wpAny_execs_cons (Hs.run W I F e1 fun f s1 φ1 hf I1 F1 t1 => ?_)
    cases hf with
    | next => exact Hss.run W I1 F1 ex (h.after t1)
    | brk => cases ex; exact (h.after t1).done .brk I1 F1
    | ret r => cases ex; exact (h.after t1).done (.ret r) I1 F1⟩
end
end
section
set_option maxHeartbeats 2000000
set_option backward.match.sparseCases false
open PySem PySem.W PyProof.Rows PySem.Calls
structure FL (h0 : Heap) (φ1 : List Addr) (s1 : Shared) (env : Env) (ρ : Env1) (a : Addr) (it : It) (σ : St) (φ : List Addr) (s : Shared) : Prop where
  I : SR σ φ s
  t : StB env h0 φ1 s1 φ s
  F : FR env ρ φ s
  R : ItR φ s.heap a it
  na : a ∉ φ
  fa : s1.heap.get? a = none
  ha : hb.get? a = none
structure TgS (A : Around) (sc : Scope) (t : Expr) (bd : V → Env1 → Option Env1) : Prop where
  run : ∀ {env : Env} {h0 : Heap} {ρ ρ' : Env1} {σ : St} {φ : List Addr} {s : Shared} {v : V} {y : Value} {Q : Unit → Shared → Prop} {E : Value → Shared → Prop},
    Frm sc env h0 → SR σ φ s → FR env ρ φ s → bd v ρ = some ρ' → VR φ s.heap v y → (∀ s', SR σ φ s' → FR env ρ' φ s' → StB env h0 φ s φ s' → Q () s') → wpAny (model prog w) A (assign t env y) Q E s
  own : ∀ {a : Addr} {s : Shared} {x : Value} {Q : Unit → Shared → Prop} {E : Value → Shared → Prop}, NI s.heap a → Q () s → wpAny (model prog w) A (letOwnedTupleGo t (.ref a) x) Q E s
section
variable {h0 : Heap} {G : GX} {A : Around} {E : Value → Shared → Prop} {env : Env} {sc : Scope} {σ σ' : St} {φ φ' φ'' φ1 : List Addr} {s s' s'' s1 : Shared} {ρ ρ' : Env1} {a : Addr} {it : It} {fl : Fl} {ss so : List Stmt} {ms mo : MS} {mt : MT} {p : Pos}
theorem StB.then0 {P : Addr → Prop} (t : StB env h0 φ s φ' s') (g : Go0 P s' s'') (hP : ∀ x, P x → s.heap.get? x = none) : StB env h0 φ s φ' s'' :=
  ⟨t.ext, fun x o e n m => g.keep x o (t.keep x o e n m) fun p => none_some (hP x p) e, fun x o e => Exists.elim (t.live x o e) fun o' e' => ⟨o', g.keep x o' e' fun p => none_some (hP x p) e⟩, g.os.trans t.os, fun i y e => g.gens i y (t.gens i y e)⟩
theorem FR.notMine (F : FR env ρ φ s) (n : NI s.heap a) : ¬ Mine1 env a := fun h => by
  obtain ⟨o, e, d⟩ := F.mine h
  obtain ⟨o', fs, e', d', _⟩ := n
  cases e.symm.trans e'; exact d fs d'
theorem imm_data {o : Obj} (i : Imm o) : (∃ xs n, o.data = .seq xs n) ∨ ∃ fs, o.data = .fields fs := i.imp (fun q => q.2) fun q => q.2
theorem StB.imm (I : SR σ φ s) (F : FR env ρ φ s) (t : StB env h0 φ s φ' s') : ImmK s.heap s'.heap := fun x o e i => t.keep x o e (fun h => by
    obtain ⟨ob, T, e', c, hT, _⟩ := I.there h
    cases e.symm.trans e'; exact stT_imm c hT i) (.inl fun m => by
    rcases m with rfl | ⟨j, n, k, h1, h2, h3⟩
    · obtain ⟨m, ⟨o2, es, ep, e2, d2, _⟩, _⟩ := F.loc
      cases e.symm.trans e2
      rcases imm_data i with ⟨_, _, d3⟩ | ⟨_, d3⟩ <;> cases d2.symm.trans d3
    · obtain ⟨c, v, e1, ⟨o2, e2, d2⟩, _⟩ := F.cel j n k h1 h2
      cases h3.symm.trans e1
      cases e.symm.trans e2
      rcases imm_data i with ⟨_, _, d3⟩ | ⟨_, d3⟩ <;> cases d2.symm.trans d3)
theorem FL.step (L : FL h0 φ1 s1 env ρ a it σ φ s) (I' : SR σ' φ' s') (F' : FR env ρ' φ' s') (t : StB env h0 φ s φ' s') : FL h0 φ1 s1 env ρ' a it σ' φ' s' := by
  obtain ⟨o, fs, eo, _⟩ := L.R.ni
  exact ⟨I', L.t.trans t, F', L.R.go t.ext.1 (t.imm L.I L.F) fun o e => t.keep a o e L.na (.inl (L.F.notMine L.R.ni)), t.ext.notin L.na eo, L.fa, L.ha⟩
theorem FL.go (L : FL h0 φ1 s1 env ρ a it σ φ s) {it' : It} (g : Go0 (· = a) s s') (I' : SR σ φ s') (R' : ItR φ s'.heap a it') : FL h0 φ1 s1 env ρ a it' σ φ s' :=
  ⟨I', L.t.then0 g fun x q => q ▸ L.fa, L.F.iter L.R.ni g, R', L.na, L.fa, L.ha⟩
theorem sndS_while {c : Expr} (Hc : SndT A sc c mt) (Hb : SndSs A sc ss ms) : SndS A sc (.While c ss [] p) (sWh mt ms) := ⟨fun {env h0 ρ σ φ s fl ρ' σ' Q E} W I F ex h => by
  refine wpAny_While (codeAny_whileLoop (fun k s' => ∃ ρ1 σ1 φ1, wh (fun r => mt r.1 r.2) ms k (ρ1, σ1) = some (fl, ρ', σ') ∧ SR σ1 φ1 s' ∧ FR env ρ1 φ1 s' ∧ StB env h0 φ s φ1 s') ?_ 10000 ⟨ρ, σ, φ, ex, I, F, .refl env h0 φ s⟩)
  rintro k s1 ⟨ρ1, σ1, φ1, e1, I1, F1, t1⟩
  cases k with
  | zero => cases e1
  | succ k =>
    unfold wh at e1
    dsimp only at e1
    cases e2 : mt ρ1 σ1 with
    | none => rw [e2] at e1; cases e1
    | some q =>
      obtain ⟨x, σ2⟩ := q
      rw [e2] at e1
      refine Hc W.K I1 F1 e2 fun s2 φ2 I2 t2 => ?_
      have F2 := F1.stp I1 t2
      have h2 := h.after (t1.trans (StB.of t2))
      have t12 := t1.trans (StB.of (env := env) (h0 := h0) t2)
      cases x with
      | false =>
        cases e1
        rw [if_neg (by decide)]
        exact wpAny_execs_nil (h2.next I2 F2)
      | true =>
        rw [if_pos rfl]
        dsimp only at e1
        cases e3 : ms (ρ1, σ2) with
        | none => rw [e3] at e1; cases e1
        | some q =>
          obtain ⟨f1, ρ3, σ3⟩ := q
          rw [e3] at e1
          refine Hb.run W I2 F2 e3 fun f s3 φ3 hf I3 F3 t3 => ?_
          cases hf with
          | next => exact ⟨k, Nat.lt_succ_self _, ρ3, σ3, φ3, e1, I3, F3, t12.trans t3⟩
          | brk => cases e1; exact (h2.after t3).done .next I3 F3
          | ret r => cases e1; exact (h2.after t3).done (.ret r) I3 F3⟩
theorem loop_core {R : Result → Shared → Prop} {t : Expr} {bd : V → Env1 → Option Env1} {k : Nat} (W : Frm sc env h0) (hh : A.handled = none) (T : TgS A sc t bd) (Hb : SndSs A sc ss ms) (Ho : SndSs A sc so mo)
    (ef : fo bd ms mo k it (ρ, σ) = some (fl, ρ', σ')) (L : FL h0 φ1 s1 env ρ a it σ φ s) (h : PF env h0 φ1 s1 fl ρ' σ' fun f s => R (.ok f) s) : codeAny (model prog w) A (.forLoop t (.ref a) ss so env) R s := by
  refine codeAny_forLoop_any (fun k s' => ∃ it' ρ2 σ2 φ2, fo bd ms mo k it' (ρ2, σ2) = some (fl, ρ', σ') ∧ FL h0 φ1 s1 env ρ2 a it' σ2 φ2 s') ?_ k ⟨it, ρ, σ, φ, ef, L⟩
  clear ef L
  rintro k s2 ⟨it', ρ2, σ2, φ2, ef, L⟩
  cases k with
  | zero => cases ef
  | succ k =>
    unfold fo at ef
    dsimp only at ef
    cases hn : nextIt it' σ2 with
    | none => rw [hn] at ef; cases ef
    | some r =>
      rw [hn] at ef
      refine next_snd hh hn L.I L.R ⟨L.na, L.ha⟩ ?_
      cases r with
      | none => exact fun s3 I3 g => Ho.run W I3 (L.F.iter L.R.ni g) ef (h.after (L.t.then0 g fun x q => q ▸ L.fa))
      | some q =>
        intro y s3 ry R3 I3 g
        have L3 := L.go g I3 R3
        obtain ⟨v, it''⟩ := q
        refine T.own R3.ni ?_
        dsimp only at ef
        cases e4 : bd v ρ2 with
        | none => rw [e4] at ef; cases ef
        | some ρ3 =>
          rw [e4] at ef
          refine T.run W I3 L3.F e4 ry fun s4 I4 F4 t4 => ?_
          have L4 := L3.step I4 F4 t4
          dsimp only at ef
          cases e5 : ms (ρ3, σ2) with
          | none => rw [e5] at ef; cases ef
          | some q =>
            obtain ⟨f1, ρ5, σ5⟩ := q
            rw [e5] at ef
            refine Hb.run W I4 F4 e5 fun f s5 φ5 hf I5 F5 t5 => ?_
            have L5 := L4.step I5 F5 t5
            cases hf with
            | next => exact ⟨k, Nat.lt_succ_self _, it'', ρ5, σ5, φ5, ef, L5⟩
            | brk => cases ef; exact (h.after L5.t).done .next I5 F5
            | ret r => cases ef; exact (h.after L5.t).done (.ret r) I5 F5
theorem FL.first (I1 : SR σ φ1 s1) (F1 : FR env ρ φ1 s1) (g : Nw s1 s) (b : AllBare s.gens) (R : ItR φ1 s.heap a it) (fa : s1.heap.get? a = none) : FL h0 φ1 s1 env ρ a it σ φ1 s :=
  ⟨I1.nw' g b, .of (.nw g), F1.stp I1 (.nw g), R, I1.new fa, fa, I1.hbn fa⟩
theorem sndS_forB {e t : Expr} {m : ME} {bd : V → Env1 → Option Env1} (hh : A.handled = none) (hs : HS) (T : TgS A sc t bd) (He : SndE A sc e m) (ok : Okd e m) (Hb : SndSs A sc ss ms) (Ho : SndSs A sc so mo) : SndS A sc (.For t e ss so p) (sForB bd m ms mo) := ⟨fun W I F ex h =>
  thn_case ex fun x σ1 e1 ex => wpAny_For (He W.K I F e1 fun z s1 φ1 r1 I1 t1 => by
    cases e2 : mkIter σ1 x with
    | none => rw [e2] at ex; cases ex
    | some i =>
      rw [e2] at ex
      exact iter_snd hs e2 I1 r1 fun ob R2 => loop_core W hh T Hb Ho ex (.first I1 (F.stp I t1) (nw_push s1 ob s1.toks s1.drawn) I1.bare R2 (new_addr _)) (h.stp t1)) fun x => fold_ok (ok e1)⟩
theorem tg_name {n : PySem.Str} {q : Pos} : TgS A sc (.Name n q) (fun v ρ => setL ρ (nIx sc n) v) := ⟨fun W I F e r h => wpAny_assign_Name (put_snd W I F (set_in W.K F e) e r fun s' I' F' t _ => h s' I' F' t), fun n h => wpAny_pure h⟩
end
end
section
set_option maxHeartbeats 2000000
set_option backward.match.sparseCases false
open PySem PySem.W PyProof.Rows PySem.Calls
section
variable {h0 : Heap} {G : GX} {A : Around} {E : Value → Shared → Prop} {env : Env} {sc csc : Scope} {σ σ' : St} {φ φ' φ'' φ1 : List Addr} {s s' s'' s1 : Shared} {ρ ρ' : Env1} {a : Addr} {it : It} {fl : Fl} {ss so : List Stmt} {ms mo : MS} {mt : MT} {m : ME} {p : Pos} {i : Nat} {v : V} {x : Value}
theorem use_done {C D : Addr} {n : PySem.Str} {pn : Pos} {r : Fl × Env1 × St} {Q : Value → Shared → Prop} (W : Frm sc env h0) (F : FR env ρ φ s) (I : SR σ φ s)
    (e : nxt ρ (nIx sc n) v σ' = some r) (fC : s.heap.get? C = none) (nC : C ∉ φ') (I' : SR σ' φ' s') (r' : VR φ' s'.heap v (.ref D)) (t' : Stp φ s φ' s') (hm : ∃ m, s'.heap.Ns C m)
    (h : ∀ ρ' s2, r = (.next, ρ', σ') → SR σ' φ' s2 → FR env ρ' φ' s2 → StB env h0 φ s φ' s2 → Q .none s2) :
    compPost (model prog w) A E (some (assign (.Name n pn) env)) Q (.ref D) C (.ok .next) s' := by
  show wpAny _ _ (assign (.Name n pn) env (.ref D)) _ _ _
  refine wpAny_assign_Name (nxt_snd W I' (F.stp I t') e r' fun ρ' s2 er I2 F2 t2 => ?_)
  obtain ⟨m, hm⟩ := hm
  have nMine : ¬ Mine1 env C := fun q => Exists.elim (F.mine q) fun o q => none_some fC q.1
  have hm2 : s2.heap.Ns C m := hm.at' fun o e => t2.keep C o e nC (.inl nMine)
  obtain ⟨o', eo, nI⟩ := ns_imm ⟨m, hm2⟩
  refine ⟨m, hm2, fun h' hs' => ?_⟩
  have g : Go0 (· = C) s2 { s2 with heap := h' } := go0_same fun b o hb e => (hs'.2 b hb).trans e
  have im : ImmK s2.heap h' := g.imm fun x q => q ▸ ⟨o', eo, nI⟩
  refine h ρ' _ er (I2.step0 g (fun a q => q ▸ ⟨nC, I.hbn fC⟩) im I2.bare) (F2.go0 g (.refl φ') im (fun a h => .inl h) (fun q => nMine (.inl q.symm)) fun c v hc q => ?_) (((StB.of t').trans t2).then0 g fun x q => q ▸ fC)
  subst q
  obtain ⟨o, ho, hd⟩ := hc
  obtain ⟨o', es, ep, e', d, _⟩ := hm2
  cases ho.symm.trans e'; cases hd.symm.trans d
theorem sndS_assignC {e it : Expr} {n : PySem.Str} {q : Pos} {N : Sem Value} (B : SndB A sc e it csc N m) : SndS A sc (.Assign [.Name n q] e p) (sAsg (nIx sc n) m) := ⟨fun {env h0 ρ σ φ s fl ρ' σ' Q E} W I F ex h =>
  thn_case ex fun v σ1 e1 ex => by
    obtain ⟨b, hb'⟩ := (B.u e1).1 env n q p.line
    cases b with
    | false => exact wpAny_Assign_Name (B.e W.K I F e1 fun z s1 φ1 r1 I1 t1 => nxt_snd W I1 (F.stp I t1) ex r1 fun ρ2 s2 er I2 F2 t2 => by
        cases er
        exact ((h.stp t1).after t2).next I2 F2) hb'
    | true =>
      obtain ⟨pos, hu⟩ := (B.u e1).2 env (assign (.Name n q) env)
      rw [exec_Assign_Name_used _ _ _ _ hb', hu]
      refine wpAny_bind (wpAny_standAt (wpAny_bind (wpAny_bind ?_)))
      refine B.c W.K I F e1 fun D C s' φ' fC nC I' r' t' hm => ?_
      exact use_done W F I ex fC nC I' r' t' hm fun ρ' s2 er I2 F2 t2 => wpAny_pure (wpAny_pure (by
        cases er
        exact (h.after t2).next I2 F2))⟩
theorem draw_list {it t : Addr} {items : Array Value} (hne : t ≠ it) : ∀ (n i : Nat) (s : Shared) (Q : List Value → Shared → Prop), s.heap.IsListIter it t i → s.heap.IsList t items → i + n ≤ items.size →
    (∀ h', h'.IsListIter it t (i + n) → Heap.SameBut it s.heap h' → Q ((items.toList.drop i).take n) { s with heap := h' }) → wpAny (model prog w) A (draw (.ref it) n) Q E s := by
  intro n
  induction n with
  | zero =>
    intro i s Q hit _ _ hQ
    show wpAny _ _ (pure []) Q E s
    exact wpAny_pure (by rw [← List.take_zero]; exact hQ s.heap hit (Heap.SameBut.refl ..))
  | succ n ih =>
    intro i s Q hit ht hle hQ
    have hlt : i < items.size := Nat.lt_of_lt_of_le (Nat.lt_add_of_pos_right (Nat.succ_pos n)) hle
    have e1 : i + (n + 1) = i + 1 + n := by rw [Nat.add_comm n, Nat.add_assoc]
    show wpAny _ _ (pyNext (.ref it) >>= _) Q E s
    refine wpAny_bind (wpAny_pyNext_list_item hit ht (x := items[i]) (Array.getElem?_eq_getElem hlt) fun h₁ hit₁ hs₁ => ?_)
    refine wpAny_bind (wpAny_holding (ih (i + 1) _ _ hit₁ (ht.extBut hs₁.extBut hne) (e1 ▸ hle) fun h₂ hit₂ hs₂ => wpAny_pure ?_))
    have hd : items.toList.drop i = items[i] :: items.toList.drop (i + 1) := List.drop_eq_getElem_cons (l := items.toList) hlt
    have := hQ h₂ (e1 ▸ hit₂) (hs₁.trans hs₂)
    rw [hd, List.take_succ_cons] at this
    exact this
theorem unpackItems_list {t : Addr} {items : Array Value} {Q : List Value → Shared → Prop} (hh : A.handled = none) (ht : s.heap.IsList t items)
    (hQ : ∀ h', Heap.ExtBut s.heap.objs.size s.heap h' → Q items.toList { s with heap := h' }) : wpAny (model prog w) A (unpackItems (.ref t) items.size none) Q E s := by
  have hlt : t ≠ s.heap.objs.size := by obtain ⟨o, ho, _⟩ := ht; exact Nat.ne_of_lt (Heap.lt_size ho)
  unfold unpackItems
  refine wpAny_bind ?_
  unfold notIterableAtAll
  refine wpAny_bind (wpAny_specialOf ht.typeIs slot_list_iter.lookup (wpAny_pure ?_))
  rw [if_neg (by decide)]
  refine wpAny_bind (wpAny_holding (wpAny_pyIter_list ht ?_))
  refine wpAny_bind (wpAny_holding (draw_list hlt items.size 0 _ _ ⟨_, Heap.get?_push_size _ rfl, rfl, rfl⟩ (ht.push _) (Nat.le_of_eq (Nat.zero_add _)) fun h₁ hit₁ hs₁ => ?_))
  have hall : List.take items.size (List.drop 0 items.toList) = items.toList := List.take_of_length_le (Nat.le_of_eq Array.length_toList)
  rw [hall, if_neg (by rw [Array.length_toList]; exact Nat.lt_irrefl _)]
  have ht₁ : h₁.IsList t items := (ht.push _).extBut hs₁.extBut hlt
  refine wpAny_bind (wpAny_holding (wpAny_pyNext_list_end hh hit₁ ht₁ (by rw [Nat.zero_add]; exact Array.getElem?_size) fun h₂ he₂ => ?_))
  rw [if_neg (by decide)]
  exact wpAny_pure (hQ h₂ fun b o hb e => he₂ b o hb (hs₁.extBut b o hb (Heap.get?_push_of_some _ e)))
theorem unp_snd {vs : List V} {Q : List Value → Shared → Prop} (hh : A.handled = none) (e : unp σ v = some vs) (I : SR σ φ s) (r : VR φ s.heap v x)
    (h : ∀ xs s', VRs φ s'.heap vs xs → SR σ φ s' → Go0 (· = s.heap.objs.size) s s' → ImmK s.heap s'.heap → Q xs s') : wpAny (model prog w) A (unpackItems x vs.length none) Q E s := by
  have fin : ∀ h' xs, Heap.ExtBut s.heap.objs.size s.heap h' → VRs φ s.heap vs xs → Q xs { s with heap := h' } := fun h' xs he rx => by
    have g : Go0 (· = s.heap.objs.size) s { s with heap := h' } := go0_same fun b o hb e => he b o hb e
    have im : ImmK s.heap h' := fun a o e _ => he a o (Nat.ne_of_lt (Heap.lt_size e)) e
    exact h xs _ (rx.mono (.refl φ) im) (I.step0 g (fun a q => q ▸ ⟨I.new (new_addr _), I.hbn (new_addr _)⟩) im I.bare) g im
  cases v with
  | tup l =>
    cases e
    obtain ⟨t, xs, rfl, ht, rs⟩ := r.tup'
    have := wpAny_unpackItems_tuple (prog := prog) (w := w) (A := A) (E := E) (s := s) (t := t) (items := xs.toArray) (Q := Q) hh ⟨_, ht, rfl, _, rfl⟩ fun h' he => fin h' xs he rs
    rw [show xs.toArray.size = vs.length from rs.length.symm] at this
    exact this
  | ref k =>
    obtain ⟨a, rfl, ka⟩ := r.ref'
    refine atL_case I ka e fun l xs n _ hx rx e => ?_
    cases e
    have := unpackItems_list (A := A) (E := E) (s := s) (t := a) (items := xs.toArray) (Q := Q) hh ⟨_, hx, rfl, _, rfl⟩ fun h' he => fin h' xs he rx
    rw [show xs.toArray.size = vs.length from rx.length.symm] at this
    exact this
  | _ => cases e
theorem nms_split {y : Expr} {ts : List Expr} {ns : List PySem.Str} (h : nmsOf (y :: ts) = some ns) : ∃ n q r, y = .Name n q ∧ nmsOf ts = some r ∧ ns = n :: r := by
  obtain ⟨q, hq, h⟩ := bind_inv h
  obtain ⟨r, h1, h2⟩ := map_inv h
  exact ⟨q.1, q.2, r, nmP_inv hq, h1, h2.symm⟩
theorem each_len {ts : List Expr} : ∀ {ns : List PySem.Str}, nmsOf ts = some ns → (assignEach ts env).length = ns.length ∧ (assignEach ts env).findIdx? (·.1) = none := by
  induction ts with
  | nil => intro ns h; cases h; exact ⟨rfl, rfl⟩
  | cons y ts ih =>
    intro ns h
    obtain ⟨n, q, r, rfl, h1, rfl⟩ := nms_split h
    refine ⟨congrArg Nat.succ (ih h1).1, ?_⟩
    show List.findIdx? (·.1) ((false, _) :: assignEach ts env) = none
    rw [List.findIdx?_cons, (ih h1).2]; rfl
theorem setAll_cons {i : Nat} {is : List Nat} {v : V} {vs : List V} {ρ ρ' : Env1} (h : setAll ρ (i :: is) (v :: vs) = some ρ') : ∃ ρ1, setL ρ i v = some ρ1 ∧ setAll ρ1 is vs = some ρ' := by
  have h : (match setL ρ i v with
    | some ρ => setAll ρ is vs
    | none => none) = some ρ' := h
  cases q : setL ρ i v with
  | none => rw [q] at h; cases h
  | some ρ1 => rw [q] at h; exact ⟨ρ1, rfl, h⟩
theorem setAll_len {is : List Nat} : ∀ {vs : List V} {ρ ρ' : Env1}, setAll ρ is vs = some ρ' → is.length = vs.length := by
  induction is with
  | nil =>
    intro vs ρ ρ' h
    cases vs with
    | nil => rfl
    | cons _ _ => cases h
  | cons i is ih =>
    intro vs ρ ρ' h
    cases vs with
    | nil => cases h
    | cons v vs =>
      exact Exists.elim (setAll_cons h) fun ρ1 q => congrArg Nat.succ (ih q.2)
theorem order_snd (W : Frm sc env h0) {ts : List Expr} : ∀ {ns : List PySem.Str} {vs : List V} {xs : List Value} {ρ ρ' : Env1} {s : Shared} {Q : Unit → Shared → Prop}, nmsOf ts = some ns → setAll ρ (ixs sc ns) vs = some ρ' → VRs φ s.heap vs xs → SR σ φ s → FR env ρ φ s →
    (∀ s', SR σ φ s' → FR env ρ' φ s' → StB env h0 φ s φ s' → Q () s') → wpAny (model prog w) A (assignInOrder ((assignEach ts env).map (·.2)) xs) Q E s := by
  induction ts with
  | nil =>
    intro ns vs xs ρ ρ' s Q hn e r I F h
    cases hn
    cases r with
    | nil => cases e; exact wpAny_pure (h s I F (.refl env h0 φ s))
    | cons _ _ => cases e
  | cons y ts ih =>
    intro ns vs xs ρ ρ' s Q hn e r I F h
    obtain ⟨n, q, l, rfl, h1, rfl⟩ := nms_split hn
    cases r with
    | nil => cases e
    | @cons v z vs zs a r =>
      obtain ⟨ρ1, e1, e⟩ := setAll_cons (is := ixs sc l) e
      show wpAny _ _ (assignInOrder (assign (.Name n q) env :: (assignEach ts env).map (·.2)) (_ :: _)) _ _ _
      unfold assignInOrder
      exact wpAny_bind (wpAny_holding (wpAny_assign_Name (put_snd W I F (set_in W.K F e1) e1 a fun s2 I2 F2 t2 im2 => ih h1 e (VRs.mono (.refl φ) im2 r) I2 F2 fun s3 I3 F3 t3 => h s3 I3 F3 (t2.trans t3))))
theorem StB.new (t : StB env h0 φ s φ' s') (g : Go0 (· = s'.heap.objs.size) s' s'') : StB env h0 φ s φ' s'' := t.then0 g fun x q => live_none t.live (q ▸ new_addr _)
theorem FR.new (F : FR env ρ φ s) (g : Go0 (· = s.heap.objs.size) s s') (im : ImmK s.heap s'.heap) : FR env ρ φ s' :=
  F.go0 g (.refl φ) im (fun a h => .inl h) (fun q => Exists.elim (F.mine (.inl rfl)) fun o e => none_some (q ▸ new_addr _) e.1) fun c v ⟨o, e, _⟩ q => none_some (q ▸ new_addr _) e
theorem ixs_len {ns : List PySem.Str} : (ixs sc ns).length = ns.length := List.length_map ..
theorem tuple_snd {ts : List Expr} {ns : List PySem.Str} {vs : List V} {q : Pos} {Q : Unit → Shared → Prop} (hh : A.handled = none) (W : Frm sc env h0) (hn : nmsOf ts = some ns)
    (e1 : unp σ v = some vs) (e2 : setAll ρ (ixs sc ns) vs = some ρ') (I : SR σ φ s) (F : FR env ρ φ s) (r : VR φ s.heap v x)
    (h : ∀ s', SR σ φ s' → FR env ρ' φ s' → StB env h0 φ s φ s' → Q () s') : wpAny (model prog w) A (assign (.Tuple ts 0 q) env x) Q E s := by
  rw [arm_assign_Tuple]
  refine wpAny_bind (wpAny_standAt ?_)
  unfold unpack
  rw [(each_len hn).1, (each_len hn).2, ← ixs_len (sc := sc), setAll_len e2]
  exact wpAny_bind (wpAny_holding (unp_snd hh e1 I r fun xs s1 r1 I1 g1 im1 => order_snd W hn e2 r1 I1 (F.new g1 im1) fun s2 I2 F2 t2 => h s2 I2 F2 (((StB.refl env h0 φ s).new g1).trans t2)))
theorem letOwn_Tuple {es : List Expr} {k : Nat} {q : Pos} {Q : Unit → Shared → Prop} (n : NI s.heap a) (h : Q () s) : wpAny (model prog w) A (letOwnedTupleGo (.Tuple es k q) (.ref a) x) Q E s := by
  unfold letOwnedTupleGo
  cases x with
  | ref r =>
    obtain ⟨o, fs, e, d, T, c, hT⟩ := n
    refine wpAny_bind (wpAny_load e ?_)
    rw [c, d]
    have hT' : (["enumerate", "zip", "dict_itemiterator", "dict_reverseitemiterator", "odict_iterator", "itertools.zip_longest", "itertools.pairwise"].contains T) = false := by
      have : T = "list_iterator" ∨ T = "tuple_iterator" ∨ T = "range_iterator" ∨ T = "str_iterator" ∨ T = "str_ascii_iterator" ∨ T = "dict_keyiterator" ∨ T = "generator" := by
        simpa [itTs] using hT
      rcases this with rfl | rfl | rfl | rfl | rfl | rfl | rfl <;> decide
    show wpAny _ A (if ((["enumerate", "zip", "dict_itemiterator", "dict_reverseitemiterator", "odict_iterator", "itertools.zip_longest", "itertools.pairwise"].contains T) && fs[0]? == some (rawInt r)) = true then _ else _) Q E s
    rw [hT', Bool.false_and, if_neg (by decide)]
    exact wpAny_pure h
  | _ => exact wpAny_pure h
theorem tg_tup {ts : List Expr} {ns : List PySem.Str} {q : Pos} (hh : A.handled = none) (hn : nmsOf ts = some ns) : TgS A sc (.Tuple ts 0 q) (bTup (ixs sc ns)) := ⟨(fun {env h0 ρ ρ' σ φ s v y Q E} W I F e r h => by
  cases v with
  | tup vs => exact tuple_snd hh W hn rfl e I F r h
  | _ => cases e), letOwn_Tuple⟩
theorem sndS_assignT {ts : List Expr} {ns : List PySem.Str} {e : Expr} {q : Pos} (hh : A.handled = none) (hn : nmsOf ts = some ns) (hc : okC e = true) (ht : ∀ env, swappedStores [.Tuple ts 0 q] e env = pure none) (He : SndE A sc e m) : SndS A sc (.Assign [.Tuple ts 0 q] e p) (sAsgT (ixs sc ns) m) := ⟨fun {env h0 ρ σ φ s fl ρ' σ' Q E} W I F ex h =>
  thn_case ex fun v σ1 e1 ex => by
    cases e2 : unp σ1 v with
    | none => rw [e2] at ex; cases ex
    | some vs =>
      rw [e2] at ex
      obtain ⟨ρ1, e3, ex⟩ := map_inv ex
      cases ex
      exact Assign_Tuple (He W.K I F e1 fun z s1 φ1 r1 I1 t1 => tuple_snd hh W hn e2 e3 I1 (F.stp I t1) r1 fun s2 I2 F2 t2 => ((h.stp t1).after t2).next I2 F2) (show swapsWith e (some (.Tuple ts 0 q)) p.line env = pure false from swaps_no hc) (ht env)⟩
theorem loc_at {n : PySem.Str} (K : EnvOK sc env h0) (h : isLoc sc n = true) : env.kindOf n = some .local := by
  obtain ⟨j, hj⟩ : ∃ j, sc.names[j]? = some (n, NameKind.local) := by
    have h : sc.names.lookup n = some .local := beq_iff_eq.mp h
    exact List.mem_iff_getElem?.mp (lookup_mem h)
  rcases K.kk j n .local hj with q | ⟨q, _⟩
  · exact K.kind q
  · cases q
theorem swapped_yes {ni nj nx ny : PySem.Str} {pi pj px py p q : Pos} (K : EnvOK sc env h0) (ki : env.kindOf ni = some .local) (kj : env.kindOf nj = some .local) (hne : ni ≠ nj) (hl : pi.line = pj.line) (hx : (nx == ("__debug__" : PySem.Str)) = false) :
    swappedStores [.Tuple [.Name ni pi, .Name nj pj] 0 p] (.Tuple [.Name nx px, .Name ny py] 0 q) env = pure (some [ni, nj]) := by
  unfold swappedStores
  have h1 : ∀ y r, foldedForSure 8 (.Name y r) = false := fun _ _ => rfl
  have h2 : constantsAlone 8 (.Name nx px) = false := by first | exact hx | rfl
  have hb : env.blockKind = .function := by unfold Env.blockKind; rw [K.fn]; rfl
  have hd : [ni, nj].eraseDups = [ni, nj] := by simp [List.eraseDups_cons, List.filter, hne.symm, beq_eq_false_iff_ne.mpr hne.symm]
  simp [hb, ki, kj, hl, Expr.pos, h1, h2, hd]
theorem sndS_swap {ni nj nx ny : PySem.Str} {pi pj px py q r : Pos} (hh : A.handled = none) (w1 : isLoc sc ni = true) (w2 : isLoc sc nj = true) (hne : ni ≠ nj) (hl : pi.line = pj.line) :
    SndS A sc (.Assign [.Tuple [.Name ni pi, .Name nj pj] 0 q] (.Tuple [.Name nx px, .Name ny py] 0 r) p) (sSwap (nIx sc ni) (nIx sc nj) (kVar (nIx sc nx)) (kVar (nIx sc ny))) := ⟨fun {env h0 ρ σ φ s fl ρ' σ' Q E} W I F ex h =>
  thn_case ex fun vx σ1 e1 ex => thn_case ex fun vy σ2 e2 ex => by
    obtain ⟨g1, rfl⟩ := kVar_inv (ρ := ρ) (σ := σ) e1
    obtain ⟨g2, rfl⟩ := kVar_inv (ρ := ρ) e2
    cases e3 : setL ρ (nIx sc ni) vx with
    | none => rw [show setL ((ρ, σ) : Env1 × St).1 (nIx sc ni) vx = none from e3] at ex; cases ex
    | some ρ1 =>
      rw [show setL ((ρ, σ) : Env1 × St).1 (nIx sc ni) vx = some ρ1 from e3] at ex
      obtain ⟨ρ2, e4, ex⟩ := nxt_inv ex
      obtain ⟨ex0, ex3⟩ := Prod.mk.inj ex
      obtain ⟨ex1, ex2⟩ := Prod.mk.inj ex3
      subst ex0 ex1 ex2
      have hi := set_in W.K F e3
      obtain ⟨li, e3'⟩ := setL_inv e3
      obtain ⟨lj, e4'⟩ := setL_inv e4
      subst e3'
      rw [List.length_set] at lj
      -- the two stores the other way round
      have hij : nIx sc ni ≠ nIx sc nj := fun q => hne (Option.some.inj (hi.symm.trans (q ▸ nIx_in W.K F lj rfl)))
      have f1 : setL ρ (nIx sc nj) vy = some (ρ.set (nIx sc nj) (some vy)) := if_pos lj
      have f2 : setL (ρ.set (nIx sc nj) (some vy)) (nIx sc ni) vx = some ρ2 := by
        unfold setL
        rw [if_pos (by rw [List.length_set]; exact li), ← e4', List.set_comm _ _ hij]
      have hx := (W.K.pl (nIx_in W.K F (lt_of_get g1) rfl)).1
      refine Assign_Tuple_swapped (names := [ni, nj]) ?_ rfl (swapped_yes W.K (loc_at W.K w1) (loc_at W.K w2) hne hl hx)
      refine wpAny_Tuple (args_cons (load_snd W.K F (nIx_in W.K F (lt_of_get g1) rfl) g1 fun zx rx => args_cons (load_snd W.K F (nIx_in W.K F (lt_of_get g2) rfl) g2 fun zy ry => args_nil ⟨by show 2 ≤ sizeLine; decide, ?_⟩) rfl) rfl)
      have g3 := nw_push s { cls := .type "tuple", data := .seq [zx, zy].toArray } s.toks s.drawn
      have I1 := I.nw' g3 I.bare
      have F1 := F.stp I (.nw g3)
      have r1 : VR φ (s.heap.push { cls := .type "tuple", data := .seq [zx, zy].toArray }) (.tup [vx, vy]) (.ref s.heap.objs.size) := .tup (Heap.get?_push_size _ rfl) (.cons (rx.mono (.refl φ) (Nw.imm g3)) (.cons (ry.mono (.refl φ) (Nw.imm g3)) .nil))
      refine unp_snd (vs := [vx, vy]) hh rfl I1 r1 fun xs s2 r2 I2 g4 im2 => ?_
      obtain ⟨z1, z2, rfl, q1, q2⟩ := VRs.two r2
      have t2 : StB env h0 φ s φ s2 := (StB.of (.nw g3)).new g4
      have F2 : FR env ρ φ s2 := F1.new g4 im2
      show wpAny _ _ (assignInOrder [bindName env nj, bindName env ni] [z2, z1]) _ _ _
      unfold assignInOrder
      refine wpAny_bind (wpAny_holding (wpAny_bindName (put_snd W I2 F2 (set_in W.K F2 f1) f1 q2 fun s3 I3 F3 t3 im3 => ?_)))
      unfold assignInOrder
      exact wpAny_bind (wpAny_holding (wpAny_bindName (put_snd W I3 F3 (set_in W.K F3 f2) f2 (q1.mono (.refl φ) im3) fun s4 I4 F4 t4 im4 => wpAny_pure ((h.after ((t2.trans t3).trans t4)).next I4 F4))))⟩
end
end
section
set_option maxHeartbeats 2000000
set_option backward.match.sparseCases false
open PySem PySem.W PyProof.Rows PySem.Calls
noncomputable def EscS (A : Around) : Prop := ∀ {sc : Scope} {i j : PySem.Str} {pi pj pt pf pc p : Pos} {e : Expr} {m : ME} {ss : List Stmt} {ms : MS}, gk sc genN = true → okX e = true → SndE A sc e m → SndSs A sc ss ms →
  SndS A sc (.For (.Tuple [.Name i pi, .Name j pj] 0 pt) (.Call (.Name genN pf) [e] [] pc) ss [] p) (sEsc (nIx sc i) (nIx sc j) m ms)
section
variable {G : GX} {A : Around} {c : CC} {sc : Scope} {d n : Nat} {ds : Bool} {k : List Stmt → MS} {p : Pos} {e it : Expr} {ts : List Expr} {bs os : List Stmt}
theorem nms_cons {n : PySem.Str} {ns : List PySem.Str} (h : nmsOf ts = some (n :: ns)) : ∃ q r, ts = .Name n q :: r ∧ nmsOf r = some ns := by
  cases ts with
  | nil => cases h
  | cons y ts =>
    obtain ⟨m, q, r, rfl, h1, h2⟩ := nms_split h
    cases h2
    exact ⟨q, ts, rfl, h1⟩
theorem nms_nil (h : nmsOf ts = some []) : ts = [] := by
  cases ts with
  | nil => rfl
  | cons y ts =>
    obtain ⟨m, q, r, _, _, h2⟩ := nms_split h
    cases h2
theorem nmsOf2 {i j : PySem.Str} (h : nmsOf ts = some [i, j]) : ∃ pi pj, ts = [.Name i pi, .Name j pj] := by
  obtain ⟨pi, r1, rfl, h1⟩ := nms_cons h
  obtain ⟨pj, r, rfl, h3⟩ := nms_cons h1
  exact ⟨pi, pj, by rw [nms_nil h3]⟩
theorem escOf_inv {x e : Expr} (h : escOf sc x = some e) : ∃ pf pc, x = .Call (.Name genN pf) [e] [] pc ∧ gk sc genN = true ∧ okX e = true := by
  obtain ⟨c, hc, h⟩ := bind_inv h
  obtain ⟨q, hq, h⟩ := bind_inv h
  obtain ⟨e', he, h⟩ := bind_inv h
  obtain ⟨w, h⟩ := ifO_inv h
  subst h
  obtain ⟨w1, w2⟩ := Bool.and_eq_true_iff.mp w
  obtain ⟨w2, w3, w4⟩ := and3 w2
  refine ⟨q.2, c.2.2.2, ?_, w3, w4⟩
  rw [clP_inv hc, nmP_inv hq, one_inv he, List.isEmpty_iff.mp w1, beq_iff_eq.mp w2]
theorem and4 {a b c d : Bool} (h : (a && b && c && d) = true) : a = true ∧ b = true ∧ c = true ∧ d = true := by
  obtain ⟨h, h3, h4⟩ := and3 h
  exact ⟨(Bool.and_eq_true_iff.mp h).1, (Bool.and_eq_true_iff.mp h).2, h3, h4⟩
theorem swap_snd {q r : Pos} {xs : List Expr} (hh : A.handled = none) : SndS A sc (.Assign [.Tuple ts 0 q] (.Tuple xs 0 r) p) (cSwap sc ts xs) :=
  sndS_onI fun t ht => sndS_onI fun u hu => sndS_onI fun i hi => sndS_onI fun j hj => sndS_onI fun a ha => sndS_onI fun b hb => sndS_onS fun w => by
    obtain ⟨w1, w2, w3, w4⟩ := and4 w
    rw [two_inv ht, two_inv hu, nmP_inv hi, nmP_inv hj, nmP_inv ha, nmP_inv hb]
    exact sndS_swap hh w1 w2 (bne_iff_ne.mp w3) (beq_iff_eq.mp w4)
theorem swapped_no {q : Pos} (h : tpP e = none) (env : Env) : swappedStores [.Tuple ts 0 q] e env = pure none := by
  cases e <;> first | rfl | cases h
theorem asgT_snd {q : Pos} (hh : A.handled = none) (H : CS A c) : SndS A sc (.Assign [.Tuple ts 0 q] e p) (cAsgT c sc ts e) :=
  sndS_onO (fun q hq => sndS_onS fun w => by rw [tpP_inv hq, of_decide_eq_true w]; exact swap_snd hh) fun h => sndS_onS fun w => sndS_onI fun ns hn => sndS_assignT hh hn w (swapped_no h) (H.e sc e)
theorem asgN_snd {n : PySem.Str} {q : Pos} (H : CS A c) (w : okA e = true) : SndS A sc (.Assign [.Name n q] e p) (sAsg (nIx sc n) (c.e sc e)) := by
  cases e with
  | ListComp x gs csc r => exact sndS_assignC (H.lc sc x gs csc r)
  | DictComp a b gs csc r => exact sndS_assignC (H.dc sc a b gs csc r)
  | GeneratorExp x gs csc r => cases w
  | SetComp x gs csc r => cases w
  | _ => exact sndS_assign0 rfl (H.e sc _)
theorem asg1_snd {t : Expr} (hh : A.handled = none) (H : CS A c) : SndS A sc (.Assign [t] e p) (cAsg1 c sc t e) :=
  sndS_onO (fun q h => sndS_onS fun w => by rw [nmP_inv h]; exact asgN_snd H w) fun _ => sndS_onO (fun q h => sndS_onS fun w => by rw [sbP_inv h]; exact sndS_assignSub w (H.e sc _) (H.e sc _) (H.e sc e))
    fun _ => sndS_onI fun q h => sndS_onS fun w => by rw [tpP_inv h, of_decide_eq_true w]; exact asgT_snd hh H
theorem asg_snd (hh : A.handled = none) (H : CS A c) : SndS A sc (.Assign ts e p) (cAsg c sc ts e) :=
  sndS_onO (fun t h => by rw [one_inv h]; exact asg1_snd hh H) fun _ => sndS_onI fun t h => sndS_onI fun n hn => sndS_onI fun m hm => by rw [two_inv h, nmP_inv hn, nmP_inv hm]; exact sndS_assign2 (H.e sc e)
theorem forT_snd {ns : List PySem.Str} {q : Pos} (hh : A.handled = none) (hs : HS) (H : CS A c) (HE : EscS A) (Hk : ∀ ss, SndSs A sc ss (k ss)) (hn : nmsOf ts = some ns) : SndS A sc (.For (.Tuple ts 0 q) it bs [] p) (cForT c sc k it bs ns) :=
  sndS_onO (fun e h => sndS_onI fun r hr => by
    obtain ⟨pf, pc, rfl, h1, h2⟩ := escOf_inv h
    rw [two_inv hr] at hn
    obtain ⟨pi, pj, rfl⟩ := nmsOf2 hn
    exact HE h1 h2 (H.e sc e) (Hk bs)) fun _ => sndS_forB hh hs (tg_tup hh hn) (H.e sc it) (H.ok sc it) (Hk bs) sndSs_nil
theorem for_snd {t : Expr} (hh : A.handled = none) (hs : HS) (H : CS A c) (HE : EscS A) (Hk : ∀ ss, SndSs A sc ss (k ss)) : SndS A sc (.For t it bs os p) (cFor c sc k t it bs os) :=
  sndS_onO (fun q h => by rw [nmP_inv h]; exact sndS_forB hh hs tg_name (H.e sc it) (H.ok sc it) (Hk bs) (Hk os)) fun _ => sndS_onI fun q h => sndS_onS fun w => sndS_onI fun ns hn => by
    have w := Bool.and_eq_true_iff.mp w
    rw [tpP_inv h, of_decide_eq_true w.1, List.isEmpty_iff.mp w.2]
    exact forT_snd hh hs H HE Hk hn
theorem upS_snd (g : GK G d) (R : RoomA A d) (H : CS A c) (HE : EscS A) (Hk : ∀ ss, SndSs A sc ss (k ss)) (st : Stmt) : SndS A sc st (upS c sc k st) := by
  cases st with
  | Assign ts e _ => exact asg_snd R.hh H
  | AugAssign t op e _ => exact sndS_onI fun q h => by rw [nmP_inv h]; exact sndS_aug (H.e sc e)
  | Expr e _ => exact sndS_onS fun w => sndS_expr w (H.e sc e)
  | If t b o _ => exact sndS_if (H.t sc t) (Hk b) (Hk o)
  | While t b o _ => exact sndS_onS fun w => by rw [List.isEmpty_iff.mp w]; exact sndS_while (H.t sc t) (Hk b)
  | For t it b o _ => exact for_snd R.hh g.sys H HE Hk
  | Return v _ => exact sndS_onI fun e h => by rw [h]; exact sndS_ret (H.e sc e)
  | Break _ => exact sndS_brk
  | _ => exact sndS_sX
theorem sSs_snd {u : Stmt → MS} (H : ∀ st, SndS A sc st (u st)) : ∀ ss, SndSs A sc ss (cSs u ss) := by
  intro ss
  induction ss with
  | nil => exact sndSs_nil
  | cons st ss ih => exact sndSs_cons (H st) ih
theorem sx_snd (g : GK G d) (R : RoomA A d) (HE : EscS A) : ∀ n sc ss, SndSs A sc ss (sx G ds n sc ss) := by
  intro n
  induction n with
  | zero => exact fun _ _ => ⟨fun _ _ _ e _ => nomatch e⟩
  | succ n ih => exact fun sc => sSs_snd fun st => upS_snd g R (cx_snd g R n) HE (ih sc) st
end
end
section
set_option maxHeartbeats 2000000
set_option backward.match.sparseCases false
open PySem PySem.W PyProof.Rows PySem.Calls
noncomputable def Ad (φ : List Addr) (ids : List Nat) (as : List Addr) : Prop := ids.map (φ[·]?) = as.map some
noncomputable def Th {Y : Type} (s : Shared) (F : St → Y × St) (R : List Addr → Y → Prop) (as : List Addr) : Prop := ∀ (σ : St) (φ : List Addr), SR σ φ s → (φ ++ as).Nodup → (∀ a ∈ as, hb.get? a = none) → SR (F σ).2 (φ ++ as) s ∧ R (φ ++ as) (F σ).1
section
variable {σ σ' : St} {φ φ' : List Addr} {s : Shared} {Y Z X : Type} {as bs : List Addr} {i j : List Nat} {a l : Addr}
theorem Ad.append (h : Ad φ i as) (k : Ad φ j bs) : Ad φ (i ++ j) (as ++ bs) := by
  unfold Ad at *; rw [List.map_append, List.map_append, h, k]
theorem Ad.one {k : Nat} (h : φ[k]? = some a) : Ad φ [k] [a] := congrArg (fun x => [x]) h
theorem Th.nil {F : St → Y × St} {R : List Addr → Y → Prop} (h : ∀ σ φ, (F σ).2 = σ ∧ R φ (F σ).1) : Th s F R [] := fun σ φ I _ _ => by
  rw [List.append_nil, (h σ φ).1]; exact ⟨I, (h σ φ).2⟩
theorem Th.cons {F : St → Y × St} {F' : St → Z × St} {R : List Addr → Y → Prop} {R' : List Addr → Z → Prop} {R2 : List Addr → X → Prop} {f : Y → Z → X} (h : Th s F R as) (h' : Th s F' R' bs) (mono : ∀ φ y, R φ y → R (φ ++ bs) y) (j : ∀ φ y z, R φ y → R' φ z → R2 φ (f y z)) :
    Th s (fun σ => (f (F σ).1 (F' (F σ).2).1, (F' (F σ).2).2)) R2 (as ++ bs) := fun σ φ I nd hf => by
  rw [← List.append_assoc] at nd ⊢
  obtain ⟨I1, r1⟩ := h σ φ I (List.nodup_append.mp nd).1 fun a ha => hf a (List.mem_append_left _ ha)
  obtain ⟨I2, r2⟩ := h' _ _ I1 nd fun a ha => hf a (List.mem_append_right _ ha)
  exact ⟨I2, j _ _ _ (mono _ _ r1) r2⟩
theorem nd_last (nd : (φ ++ [a]).Nodup) : a ∉ φ := fun hm => (List.nodup_append.mp nd).2.2 _ hm _ (List.mem_singleton.mpr rfl) rfl
theorem Th.obj {F : St → Y × St} {R : List Addr → Y → Prop} {mo : Y → O} (h : Th s F R as) (hr : ∀ φ y, R φ y → OR φ s.heap (mo y) a) : Th s (fun σ => (V.ref (F σ).2.length, (F σ).2 ++ [mo (F σ).1])) (fun φ v => VR φ s.heap v (.ref a)) (as ++ [a]) := fun σ φ I nd hf => by
  rw [← List.append_assoc] at nd ⊢
  obtain ⟨I1, r1⟩ := h σ φ I (List.nodup_append.mp nd).1 fun a ha => hf a (List.mem_append_left _ ha)
  exact ⟨I1.adopt (nd_last nd) (hf _ (List.mem_append_right _ (List.mem_singleton.mpr rfl))) ((hr _ _ r1).mono (.snoc _ a) (.refl _) fun _ e => e), .ref (I1.last a)⟩
theorem Th.it {F : St → List V × St} {xs : List Value} {n p : Nat} (h : Th s F (fun φ vs => VRs φ s.heap vs xs) as) (hl : s.heap.get? l = some { cls := .type "list", data := .seq xs.toArray n }) (hi : s.heap.IsListIter a l p) :
    Th s (fun σ => (V.ref ((F σ).2.length + 1), (F σ).2 ++ [.list (F σ).1, .it (F σ).2.length p])) (fun φ v => VR φ s.heap v (.ref a)) (as ++ [l, a]) := fun σ φ I nd hf => by
  have e : φ ++ (as ++ [l, a]) = (φ ++ as ++ [l]) ++ [a] := by rw [List.append_assoc (φ ++ as), List.append_assoc φ]; rfl
  rw [e] at nd ⊢
  have n1 := (List.nodup_append.mp nd).1
  obtain ⟨I1, r1⟩ := h σ φ I (List.nodup_append.mp n1).1 fun a ha => hf a (List.mem_append_left _ ha)
  have I2 := I1.adopt (o := .list (F σ).1) (nd_last n1) (hf _ (List.mem_append_right _ List.mem_cons_self)) ⟨_, _, hl, VRs.mono (.snoc _ l) (.refl _) r1⟩
  have I3 := I2.adopt (o := .it (F σ).2.length p) (nd_last nd) (hf _ (List.mem_append_right _ (List.mem_cons_of_mem _ (List.mem_singleton.mpr rfl)))) ⟨l, Pre.snoc _ a _ _ (I1.last l), hi⟩
  have e2 : (F σ).2 ++ [O.list (F σ).1, O.it (F σ).2.length p] = ((F σ).2 ++ [.list (F σ).1]) ++ [.it (F σ).2.length p] := by rw [List.append_assoc]; rfl
  refine ⟨by show SR ((F σ).2 ++ [O.list (F σ).1, O.it (F σ).2.length p]) _ _; rw [e2]; exact I3, ?_⟩
  have := I2.last a
  rw [List.length_append] at this
  exact .ref this
noncomputable abbrev FrzOK (φ : List Addr) (s : Shared) (f : V → Option (T × List Nat)) : Prop := ∀ v t ids x, f v = some (t, ids) → VR φ s.heap v x → ∃ as, Ad φ ids as ∧ Th s (thaw t) (fun φ v => VR φ s.heap v x) as
theorem frzL_inv {f : V → Option (T × List Nat)} {v : V} {vs : List V} {r : List T} {ids : List Nat} (e : frzL f (v :: vs) = some (r, ids)) : ∃ t a ts b, f v = some (t, a) ∧ frzL f vs = some (ts, b) ∧ t :: ts = r ∧ a ++ b = ids := by
  unfold frzL at e
  cases e1 : f v with
  | none => rw [e1] at e; cases e
  | some p =>
    cases e2 : frzL f vs with
    | none => rw [e1, e2] at e; cases e
    | some q => rw [e1, e2] at e; cases e; exact ⟨_, _, _, _, rfl, rfl, rfl, rfl⟩
theorem frzD_inv {κ : Type} {f : V → Option (T × List Nat)} {k : κ} {v : V} {vs : List (κ × V)} {r : List (κ × T)} {ids : List Nat} (e : frzD f ((k, v) :: vs) = some (r, ids)) : ∃ t a ts b, f v = some (t, a) ∧ frzD f vs = some (ts, b) ∧ (k, t) :: ts = r ∧ a ++ b = ids := by
  unfold frzD at e
  cases e1 : f v with
  | none => rw [e1] at e; cases e
  | some p =>
    cases e2 : frzD f vs with
    | none => rw [e1, e2] at e; cases e
    | some q => rw [e1, e2] at e; cases e; exact ⟨_, _, _, _, rfl, rfl, rfl, rfl⟩
theorem frzL_th {f : V → Option (T × List Nat)} (H : FrzOK φ s f) {vs : List V} : ∀ {ts : List T} {ids : List Nat} {xs : List Value}, frzL f vs = some (ts, ids) → VRs φ s.heap vs xs → ts.length = xs.length ∧ ∃ as, Ad φ ids as ∧ Th s (thaws ts) (fun φ vs => VRs φ s.heap vs xs) as := by
  induction vs with
  | nil => intro ts ids xs e r; cases e; cases r; exact ⟨rfl, [], rfl, .nil fun σ φ => ⟨rfl, .nil⟩⟩
  | cons v vs ih =>
    intro ts ids xs e r
    cases r with
    | cons a r =>
      obtain ⟨t, i, ts, j, e1, e2, rfl, rfl⟩ := frzL_inv e
      obtain ⟨as, h1, h2⟩ := H v t i _ e1 a
      obtain ⟨hl, bs, h3, h4⟩ := ih e2 r
      exact ⟨congrArg Nat.succ hl, as ++ bs, h1.append h3, h2.cons (f := fun y z => y :: z) h4 (fun φ y q => q.mono (Pre.app _ _) (.refl _)) fun φ y z q q' => .cons q q'⟩
theorem frzD_th {κ κ' : Type} {enc : κ → κ'} {f : V → Option (T × List Nat)} (H : FrzOK φ s f) {F : List (κ × T) → St → List (κ × V) × St} (F0 : ∀ σ, F [] σ = ([], σ)) (F1 : ∀ k t ts σ, F ((k, t) :: ts) σ = ((k, (thaw t σ).1) :: (F ts (thaw t σ).2).1, (F ts (thaw t σ).2).2)) {vs : List (κ × V)} :
    ∀ {ts : List (κ × T)} {ids : List Nat} {xs : List (κ' × Value)}, frzD f vs = some (ts, ids) → KR enc φ s.heap vs xs → ∃ as, Ad φ ids as ∧ Th s (F ts) (fun φ vs => KR enc φ s.heap vs xs) as := by
  induction vs with
  | nil => intro ts ids xs e r; cases e; cases r; exact ⟨[], rfl, .nil fun σ φ => by rw [F0]; exact ⟨rfl, .nil⟩⟩
  | cons v vs ih =>
    intro ts ids xs e r
    obtain ⟨k, v⟩ := v
    cases r with
    | @cons _ kx _ _ a r =>
      obtain ⟨k', x⟩ := kx
      obtain ⟨t, i, ts, j, e1, e2, rfl, rfl⟩ := frzD_inv e
      obtain ⟨as, h1, h2⟩ := H v t i _ e1 a.2
      obtain ⟨bs, h3, h4⟩ := ih e2 r
      refine ⟨as ++ bs, h1.append h3, ?_⟩
      rw [show F ((k, t) :: ts) = fun σ => ((k, (thaw t σ).1) :: (F ts (thaw t σ).2).1, (F ts (thaw t σ).2).2) from funext fun σ => F1 k t ts σ]
      exact h2.cons (f := fun y z => (k, y) :: z) h4 (fun φ y q => q.mono (Pre.app _ _) (.refl _)) fun φ y z q q' => .cons ⟨a.1, q⟩ q'
theorem frz_th (I : SR σ φ s) : ∀ n, FrzOK φ s (frz σ n) := by
  intro n
  induction n with
  | zero => exact fun v t ids x e r => nomatch e
  | succ n H =>
    intro v t ids x e r
    cases r with
    | none => cases e; exact ⟨[], rfl, .nil fun σ φ => ⟨rfl, .none⟩⟩
    | bool b => cases e; exact ⟨[], rfl, .nil fun σ φ => ⟨rfl, .bool b⟩⟩
    | int i t => cases e; exact ⟨[], rfl, .nil fun σ φ => ⟨rfl, .int i t⟩⟩
    | str i t => cases e; exact ⟨[], rfl, .nil fun σ φ => ⟨rfl, .str i t⟩⟩
    | adr => cases e; exact ⟨[], rfl, .nil fun σ φ => ⟨rfl, .adr⟩⟩
    | rng _ _ => cases e
    | @tupI vs xs a ht hl hr =>
      obtain ⟨p, q, e⟩ := map_inv e
      cases e
      obtain ⟨_, as, h1, h2⟩ := frzL_th H q (.of_get hl hr)
      exact ⟨as, h1, fun σ φ I nd hf => ⟨(h2 σ φ I nd hf).1, .tup ht (h2 σ φ I nd hf).2⟩⟩
    | @ref k a ka =>
      obtain ⟨o, eo, ro⟩ := I.lookup ka
      have e : (match σ[k]? with
        | some o => frzO (frz σ n) σ k o
        | none => none) = some (t, ids) := e
      rw [eo] at e
      cases o with
      | list vs =>
        obtain ⟨p, q, e⟩ := map_inv e
        cases e
        obtain ⟨xs, m, hx, rx⟩ := ro
        obtain ⟨_, as, h1, h2⟩ := frzL_th H q rx
        exact ⟨as ++ [a], h1.append (.one ka), h2.obj (mo := O.list) fun φ y q => ⟨_, _, hx, q⟩⟩
      | dI es =>
        obtain ⟨p, q, e⟩ := map_inv e
        cases e
        obtain ⟨kvs, hd, rk⟩ := ro
        obtain ⟨as, h1, h2⟩ := frzD_th H (F := thawsI) (fun _ => rfl) (fun _ _ _ _ => rfl) q rk
        exact ⟨as ++ [a], h1.append (.one ka), h2.obj (mo := O.dI) fun φ y q => ⟨kvs, by rw [q.length, ← rk.length]; exact hd, q⟩⟩
      | dS es =>
        obtain ⟨p, q, e⟩ := map_inv e
        cases e
        obtain ⟨kvs, hd, rk⟩ := ro
        obtain ⟨as, h1, h2⟩ := frzD_th H (F := thawsS) (fun _ => rfl) (fun _ _ _ _ => rfl) q rk
        exact ⟨as ++ [a], h1.append (.one ka), h2.obj (mo := O.dS) fun φ y q => ⟨kvs, by rw [q.length, ← rk.length]; exact hd, q⟩⟩
      | it j i =>
        obtain ⟨l, kl, hit⟩ := ro
        refine atL_case I kl e fun vs xs m el hx rx e => ?_
        obtain ⟨p, q, e⟩ := map_inv e
        cases e
        obtain ⟨_, as, h1, h2⟩ := frzL_th H q rx
        exact ⟨as ++ [l, a], h1.append ((Ad.one kl).append (.one ka)), h2.it hx hit⟩
end
end
section
set_option maxHeartbeats 2000000
set_option backward.match.sparseCases false
open PySem PySem.W PyProof.Rows PySem.Calls
noncomputable def dK : Data → Nat
  | .seq .. => 0
  | .dict .. => 1
  | .fields _ => 2
  | _ => 3
noncomputable def ScrOK : Prop := ∃ o, hb.get? scrA = some o ∧ ¬ Imm o
section
variable {σ σ0 σ1 : St} {φ φ0 φ1 : List Addr} {s s' : Shared} {v v0 : V} {x y : Value} {a : Addr} {o o0 o1 : O}
theorem scr_at (C : ScrOK) (I : SR σ φ s) {ob : Obj} (e : s.heap.get? scrA = some ob) : ¬ Imm ob := by
  obtain ⟨o, h1, h2⟩ := C
  cases (I.keep _ _ h1).symm.trans e
  exact h2
theorem VR.imm_case (C : ScrOK) (I : SR σ φ s) (b : VR φ s.heap v (.ref a)) {ob : Obj} (e : s.heap.get? a = some ob) (i : Imm ob) {P : Prop}
    (k1 : ∀ vs xs, v = .tup vs → ob = { cls := .type "tuple", data := .seq xs.toArray } → VRs φ s.heap vs xs → P) (k2 : ∀ c d f t u w, v = .rng c d f → IsRange s.heap a c d f t u w → Builtin.Range.small c d f = true → P) : P := by
  cases b with
  | tupI h l q => exact k1 _ _ rfl (Option.some.inj (e.symm.trans h)) (.of_get l q)
  | rng h q => exact k2 _ _ _ _ _ _ rfl h q
  | ref k =>
    obtain ⟨_, _, e', c, t, _⟩ := I.there (List.mem_of_getElem? k)
    cases e.symm.trans e'
    exact absurd i (stT_imm c t)
  | adr => exact absurd i (scr_at C I e)
theorem rng_tup {h : Heap} {c d f : Int} {t u w : Tok} {xs : List Value} {P : Prop} (e : h.get? a = some { cls := .type "tuple", data := .seq xs.toArray }) (r : IsRange h a c d f t u w) : P := by
  exact nomatch (show (2 : Nat) = 0 from congrArg (fun o : Obj => dK o.data) (Option.some.inj ((show h.get? a = some _ from r).symm.trans e)))
theorem VR.obj_case (n : ∃ ob, s.heap.get? a = some ob ∧ ¬ Imm ob) (b : VR φ s.heap v (.ref a)) {P : V → Prop} (k1 : ∀ k, φ[k]? = some a → P (.ref k)) (k2 : a = scrA → P (.adr scrA)) : P v := by
  obtain ⟨ob, e, n⟩ := n
  cases b with
  | tupI h l q => cases e.symm.trans h; exact absurd (.inl ⟨rfl, _, _, rfl⟩) n
  | rng h q => cases e.symm.trans h; exact absurd (.inr ⟨rfl, _, rfl⟩) n
  | ref k => exact k1 _ k
  | adr => exact k2 rfl
theorem VR.move (C : ScrOK) (I : SR σ φ s) (I0 : SR σ0 φ0 s) (hp : Pre φ0 φ1) (r : VR φ0 s.heap v0 x) : ∀ {v : V} {y : Value}, VR φ s.heap v x → VR φ1 s'.heap v0 y → VR φ s'.heap v y := by
  induction r with
  | none => intro v y b c; cases b; cases c; exact .none
  | bool _ => intro v y b c; cases b; cases c; exact .bool _
  | int _ _ => intro v y b c; cases b; cases c; exact .int _ _
  | str z t =>
    intro v y b c
    obtain ⟨t, rfl⟩ := c.str'
    generalize hz : S z = sz at b
    cases b with
    | str z' => rw [← S_inj hz]; exact .str z t
  | @tupI vs xs a h l q ih =>
    intro v y b c
    obtain ⟨a', ys, rfl, h', r'⟩ := c.tup'
    refine b.imm_case C I h (.inl ⟨rfl, _, _, rfl⟩) (fun vs2 xs2 hv ho rr => ?_) fun _ _ _ _ _ _ hv hr _ => rng_tup h hr
    have hx : xs = xs2 := by cases ho; rfl
    subst hv hx
    refine .tup h' (.of_get (rr.length.trans (l.symm.trans r'.length)) fun i v y e1 e2 => ?_)
    obtain ⟨x, e3, rv⟩ := rr.get e1
    have hi : i < vs.length := l ▸ lt_of_get e3
    obtain ⟨y', e4, ry⟩ := r'.get (List.getElem?_eq_getElem hi)
    cases e2.symm.trans e4
    exact ih i _ x (List.getElem?_eq_getElem hi) e3 rv ry
  | rng h q =>
    intro v y b c
    cases c with | rng h' q' =>
    refine b.imm_case C I h (.inr ⟨rfl, _, rfl⟩) (fun vs2 xs2 hv ho rr => by exact nomatch (show (2 : Nat) = 0 from congrArg (fun o : Obj => dK o.data) ho)) fun _ _ _ _ _ _ hv hr _ => ?_
    cases (show s.heap.get? _ = some _ from h).symm.trans hr
    subst hv
    exact .rng h' q'
  | ref k0 =>
    intro v y b c
    obtain ⟨a', rfl, k1⟩ := c.ref'
    cases (hp _ _ k0).symm.trans k1
    obtain ⟨_, _, e', c, t, _⟩ := I0.there (List.mem_of_getElem? k0)
    exact b.obj_case (P := fun v => VR φ s'.heap v _) ⟨_, e', stT_imm c t⟩ (fun k hk => .ref hk) fun q => by rw [q]; exact .adr
  | adr =>
    intro v y b c
    obtain ⟨o, h1, h2⟩ := id C
    cases c
    exact b.obj_case (P := fun v => VR φ s'.heap v _) ⟨_, I.keep _ _ h1, h2⟩ (fun k hk => .ref hk) fun q => .adr
theorem VRs.move (C : ScrOK) (I : SR σ φ s) (I0 : SR σ0 φ0 s) (hp : Pre φ0 φ1) {v0 : List V} {xs : List Value} (r : VRs φ0 s.heap v0 xs) : ∀ {v : List V} {ys : List Value}, VRs φ s.heap v xs → VRs φ1 s'.heap v0 ys → VRs φ s'.heap v ys := by
  induction r with
  | nil => intro v ys b c; cases b; cases c; exact .nil
  | cons a r ih =>
    intro v ys b c
    cases b with | cons b1 b2 =>
    cases c with | cons c1 c2 =>
    exact .cons (a.move C I I0 hp b1 c1) (ih b2 c2)
theorem KR.move {κ κ' : Type} {enc : κ → κ'} (hi : ∀ a b, enc a = enc b → a = b) (C : ScrOK) (I : SR σ φ s) (I0 : SR σ0 φ0 s) (hp : Pre φ0 φ1) {v0 : List (κ × V)} {xs : List (κ' × Value)} (r : KR enc φ0 s.heap v0 xs) : ∀ {v : List (κ × V)} {ys : List (κ' × Value)}, KR enc φ s.heap v xs → KR enc φ1 s'.heap v0 ys → KR enc φ s'.heap v ys := by
  induction r with
  | nil => intro v ys b c; cases b; cases c; exact .nil
  | cons a r ih =>
    intro v ys b c
    cases b with | cons b1 b2 =>
    cases c with | cons c1 c2 =>
    exact .cons ⟨c1.1.trans (congrArg enc (hi _ _ (a.1.symm.trans b1.1))), a.2.move C I I0 hp b1.2 c1.2⟩ (ih b2 c2)
theorem pairs_uniq {K : Type} [DecidableEq K] {knd : PySem.KeyKind prog w K} {es : List DictEntry} {a : List (K × Value)} (p : Pairs knd es a) : ∀ {b : List (K × Value)}, Pairs knd es b → a = b := by
  induction p with
  | nil => intro b q; cases q; rfl
  | cons h1 h2 r ih =>
    intro b q
    cases q with
    | cons h1' h2' r' => rw [ih r', Prod.ext (knd.inj _ _ _ h1 h1') (h2.symm.trans h2')]
theorem dictAt_uniq {K : Type} [DecidableEq K] {knd : PySem.KeyKind prog w K} {h : Heap} {k1 k2 : List (K × Value)} {n m : Nat} (h1 : h.DictAt knd a k1 n) (h2 : h.DictAt knd a k2 m) : k1 = k2 ∧ n = m := by
  obtain ⟨o, es, e, _, d, _, p, _⟩ := h1
  obtain ⟨o', es', e', _, d', _, p', _⟩ := h2
  cases e.symm.trans e'; cases d.symm.trans d'
  exact ⟨pairs_uniq p p', rfl⟩
theorem dict_mix {h : Heap} {k1 : List (Int × Value)} {k2 : List (PySem.Str × Value)} {n m : Nat} (h1 : h.DictAt (intKind prog w) a k1 n) (h2 : h.DictAt (strKind prog w) a k2 m) : k1 = [] ∧ k2 = [] := by
  obtain ⟨o, es, e, _, d, _, p, _⟩ := h1
  obtain ⟨o', es', e', _, d', _, p', _⟩ := h2
  cases e.symm.trans e'; cases d.symm.trans d'
  generalize es.toList = l at p p'
  cases p with
  | nil => cases p'; exact ⟨rfl, rfl⟩
  | cons q1 q2 q3 =>
    cases p' with
    | cons r1 r2 r3 =>
      obtain ⟨t, et⟩ := Value.isInt_shape q1
      obtain ⟨t', et'⟩ := Value.isStrOf_shape r1
      cases et.symm.trans et'
theorem dict_turn {K K' : Type} [DecidableEq K] [DecidableEq K'] {knd : PySem.KeyKind prog w K} {knd' : PySem.KeyKind prog w K'} {h : Heap} {n : Nat} (h1 : h.DictAt knd a [] n) : h.DictAt knd' a [] n := by
  obtain ⟨o, es, e, ex, d, ks, p, _⟩ := h1
  have hl : es.toList = [] := by
    generalize es.toList = l at p
    cases p; rfl
  refine ⟨o, es, e, ex, d, fun x hx => ?_, by rw [hl]; exact .nil, List.nodup_nil⟩
  have := Array.mem_toList_iff.mpr hx
  rw [hl] at this
  exact absurd this List.not_mem_nil
noncomputable def oK : O → Nat
  | .list _ => 0
  | .dI _ | .dS _ => 1
  | .it _ _ => 2
theorem OR.kind {h : Heap} (r : OR φ h o a) : ∃ ob, h.get? a = some ob ∧ dK ob.data = oK o := by
  cases o with
  | list _ => obtain ⟨_, _, e, _⟩ := r; exact ⟨_, e, rfl⟩
  | dI _ => obtain ⟨_, ⟨_, _, e, _, d, _⟩, _⟩ := r; exact ⟨_, e, congrArg dK d⟩
  | dS _ => obtain ⟨_, ⟨_, _, e, _, d, _⟩, _⟩ := r; exact ⟨_, e, congrArg dK d⟩
  | it _ _ => obtain ⟨_, _, _, e, _, d⟩ := r; exact ⟨_, e, congrArg dK d⟩
theorem OR.same {h : Heap} (r : OR φ h o a) (r' : OR φ0 h o0 a) : oK o = oK o0 := by
  obtain ⟨_, e, d⟩ := r.kind
  obtain ⟨_, e', d'⟩ := r'.kind
  cases e.symm.trans e'
  exact d.symm.trans d'
noncomputable def itGo : O → O → O
  | .it j _, .it _ i => .it j i
  | o, _ => o
theorem it_uniq {h : Heap} {J i j i0 : Nat} (r : OR φ h (.it J i) a) (r0 : OR φ0 h (.it j i0) a) : i = i0 ∧ ∃ l, φ[J]? = some l ∧ φ0[j]? = some l := by
  obtain ⟨l, hl, ob, e, _, d⟩ := r
  obtain ⟨l0, hl0, ob0, e0, _, d0⟩ := r0
  cases e.symm.trans e0
  have h1 := d.symm.trans d0
  simp only [Data.fields.injEq, Array.mk.injEq, List.cons.injEq, Value.ref.injEq] at h1
  obtain ⟨rfl, h2, _⟩ := h1
  exact ⟨Int.ofNat.inj (by cases h2; rfl), _, hl, hl0⟩
theorem OR.moveIt (hp : Pre φ0 φ1) {j i i' : Nat} (r : OR φ s.heap o a) (r0 : OR φ0 s.heap (.it j i) a) (r1 : OR φ1 s'.heap (.it j i') a) : OR φ s'.heap (itGo o (.it j i')) a := by
  have k := r.same r0
  cases o with
  | it J I =>
    obtain ⟨_, l, h1, h2⟩ := it_uniq r r0
    obtain ⟨l1, hl1, hi1⟩ := r1
    cases (hp _ _ h2).symm.trans hl1
    exact ⟨_, h1, hi1⟩
  | _ => cases k
theorem OR.move (C : ScrOK) (I : SR σ φ s) (I0 : SR σ0 φ0 s) (hp : Pre φ0 φ1) (r : OR φ s.heap o a) (r0 : OR φ0 s.heap o0 a) (r1 : OR φ1 s'.heap o1 a)
    (hsame : o1 = o0 ∨ ∃ j i i', o0 = .it j i ∧ o1 = .it j i') : OR φ s'.heap (itGo o o1) a := by
  rcases hsame with rfl | ⟨j, i, i', rfl, rfl⟩
  · have k := r.same r0
    cases o1 with
    | list vs =>
      cases o with
      | list vs2 =>
        obtain ⟨xs, n, e, q⟩ := r0
        obtain ⟨ys, m, e1, q1⟩ := r1
        obtain ⟨zs, m2, e2, q2⟩ := r
        cases e.symm.trans e2
        exact ⟨ys, m, e1, VRs.move C I I0 hp q q2 q1⟩
      | _ => cases k
    | dI es =>
      obtain ⟨kvs, hd, q⟩ := r0
      obtain ⟨kvs1, hd1, q1⟩ := r1
      cases o with
      | dI es2 =>
        obtain ⟨kvs2, hd2, q2⟩ := r
        obtain ⟨rfl, hn⟩ := dictAt_uniq hd hd2
        exact ⟨kvs1, by rw [← hn]; exact hd1, KR.move (fun _ _ e => e) C I I0 hp q q2 q1⟩
      | dS es2 =>
        obtain ⟨kvs2, hd2, q2⟩ := r
        obtain ⟨rfl, rfl⟩ := dict_mix hd hd2
        cases q
        cases q2
        cases q1
        exact ⟨[], dict_turn hd1, .nil⟩
      | _ => cases k
    | dS es =>
      obtain ⟨kvs, hd, q⟩ := r0
      obtain ⟨kvs1, hd1, q1⟩ := r1
      cases o with
      | dS es2 =>
        obtain ⟨kvs2, hd2, q2⟩ := r
        obtain ⟨rfl, hn⟩ := dictAt_uniq hd hd2
        exact ⟨kvs1, by rw [← hn]; exact hd1, KR.move (fun _ _ => S_inj) C I I0 hp q q2 q1⟩
      | dI es2 =>
        obtain ⟨kvs2, hd2, q2⟩ := r
        obtain ⟨rfl, rfl⟩ := dict_mix hd2 hd
        cases q
        cases q2
        cases q1
        exact ⟨[], dict_turn hd1, .nil⟩
      | _ => cases k
    | it j i => exact OR.moveIt hp r r0 r1
  · exact OR.moveIt hp r r0 r1
end
end
section
set_option maxHeartbeats 2000000
set_option backward.match.sparseCases false
open PySem PySem.W PyProof.Rows PySem.Calls
noncomputable def fwf (sc : Scope) (nv : Nat) : Bool :=
  sc.kind == .function && (decide (sc.names.map (·.1)).Nodup && (sc.names.all (fun x => !(x.1 == ("__debug__" : PySem.Str)) && !(x.1 == ("__classdict__" : PySem.Str)))
  && (decide (nv ≤ sc.names.length) && ((sc.names.take nv).all (fun x => x.2 == .local || x.2 == .cell) && (sc.names.all (fun x => x.2 != .free) && (match sc.names[0]? with | some x => !(x.1 == (".0" : PySem.Str)) | none => true))))))
structure FWF (sc : Scope) (nv : Nat) : Prop where
  fn : sc.kind = .function
  nd : (sc.names.map (·.1)).Nodup
  plain : ∀ x ∈ sc.names, (x.1 == ("__debug__" : PySem.Str)) = false ∧ (x.1 == ("__classdict__" : PySem.Str)) = false
  own : ∀ i, i < nv → ∃ (n : PySem.Str) (k : NameKind), sc.names[i]? = some (n, k) ∧ (k = .local ∨ k = .cell)
  free : ∀ x ∈ sc.names, x.2 ≠ .free
  zero : ∀ k, sc.names[0]? ≠ some ((".0" : PySem.Str), k)
theorem and2 {a b : Bool} (h : (a && b) = true) : a = true ∧ b = true := Bool.and_eq_true_iff.mp h
theorem fwf_ok {sc : Scope} {nv : Nat} (h : fwf sc nv = true) : FWF sc nv := by
  obtain ⟨h1, h⟩ := and2 h
  obtain ⟨h2, h⟩ := and2 h
  obtain ⟨h3, h⟩ := and2 h
  obtain ⟨h4, h⟩ := and2 h
  obtain ⟨h5, h⟩ := and2 h
  obtain ⟨h6, h7⟩ := and2 h
  refine ⟨beq_iff_eq.mp h1, of_decide_eq_true h2, fun x hx => ?_, fun i hi => ?_, fun x hx => bne_iff_ne.mp (List.all_eq_true.mp h6 x hx), fun k hk => ?_⟩
  · have := and2 (List.all_eq_true.mp h3 x hx)
    exact ⟨not_tt this.1, not_tt this.2⟩
  · have hl : i < sc.names.length := Nat.lt_of_lt_of_le hi (of_decide_eq_true h4)
    have e : sc.names[i]? = some sc.names[i] := List.getElem?_eq_getElem hl
    have e2 : (sc.names.take nv)[i]? = some sc.names[i] := by rw [List.getElem?_take, if_pos hi, e]
    have := Bool.or_eq_true_iff.mp (List.all_eq_true.mp h5 _ (List.mem_of_getElem? e2))
    exact ⟨_, _, e, this.imp beq_iff_eq.mp beq_iff_eq.mp⟩
  · rw [hk] at h7
    exact absurd (beq_self_eq_true _) (by rw [not_tt h7]; decide)
section
variable {kd : PySem.Str → Option NameKind} {binds : List (PySem.Str × Value)} {n : PySem.Str} {v : Value}
theorem bindL_other : ∀ {m : PySem.Str → Option Value}, n ∉ binds.map (·.1) → bindL kd binds m n = m n := by
  induction binds with
  | nil => exact fun _ => rfl
  | cons y r ih =>
    intro m h
    rw [List.map_cons, List.mem_cons, not_or] at h
    unfold bindL
    rw [ih h.2]
    split
    · exact if_neg h.1
    · rfl
theorem bindL_get : ∀ {m : PySem.Str → Option Value}, (binds.map (·.1)).Nodup → (n, v) ∈ binds → kd n = some .local → bindL kd binds m n = some v := by
  induction binds with
  | nil => exact fun _ h => absurd h List.not_mem_nil
  | cons y r ih =>
    intro m hn h hk
    rw [List.map_cons, List.nodup_cons] at hn
    unfold bindL
    rcases List.mem_cons.mp h with e | h
    · subst e
      rw [bindL_other hn.1, if_pos hk]; exact if_pos rfl
    · exact ih hn.2 h hk
theorem bindC_other : ∀ {m : PySem.Str → Option Value}, n ∉ binds.map (·.1) → bindC kd binds m n = m n := by
  induction binds with
  | nil => exact fun _ => rfl
  | cons y r ih =>
    intro m h
    rw [List.map_cons, List.mem_cons, not_or] at h
    unfold bindC
    rw [ih h.2]
    split
    · rfl
    · exact if_neg h.1
theorem bindC_get : ∀ {m : PySem.Str → Option Value}, (binds.map (·.1)).Nodup → (n, v) ∈ binds → kd n = some .cell → bindC kd binds m n = some v := by
  induction binds with
  | nil => exact fun _ h => absurd h List.not_mem_nil
  | cons y r ih =>
    intro m hn h hk
    rw [List.map_cons, List.nodup_cons] at hn
    unfold bindC
    rcases List.mem_cons.mp h with e | h
    · subst e
      rw [bindC_other hn.1, if_neg (by rw [hk]; decide)]; exact if_pos rfl
    · exact ih hn.2 h hk
end
theorem nones_get : ∀ (k : Nat) {i : Nat} {x : V}, (nones k)[i]? = some (some x) → False := by
  intro k
  induction k with
  | zero => exact fun h => nomatch h
  | succ k ih =>
    intro i x h
    cases i with
    | zero => cases h
    | succ i => exact ih h
theorem start_get {vs : List V} {k i : Nat} {x : V} (h : (vs.map some ++ nones k)[i]? = some (some x)) : vs[i]? = some x := by
  rcases Nat.lt_or_ge i (vs.map some).length with hi | hi
  · rw [List.getElem?_append_left hi, List.getElem?_map] at h
    obtain ⟨y, q, e⟩ := map_inv h
    cases e; exact q
  · rw [List.getElem?_append_right hi] at h
    exact (nones_get _ h).elim
theorem nones_len (k : Nat) : (nones k).length = k := by
  induction k with
  | zero => rfl
  | succ k ih => exact congrArg Nat.succ ih
noncomputable def bindsOf (sc : Scope) (xs : List Value) : List (PySem.Str × Value) := (sc.names.map (·.1)).zip xs
section
variable {σ σ0 σ1 : St} {φ φ0 φ1 : List Addr} {s s' s1 : Shared} {fd : FuncData} {fa : Addr} {nv : Nat} {vs : List V} {xs : List Value}
theorem zip_sub {α β : Type} (l : List α) : ∀ xs : List β, ((l.zip xs).map (·.1)).Sublist l := by
  induction l with
  | nil => exact fun _ => .slnil
  | cons a l ih =>
    intro xs
    cases xs with
    | nil => exact List.nil_sublist _
    | cons x xs => exact (ih xs).cons_cons a
theorem binds_nd (W : FWF fd.scope nv) : ((bindsOf fd.scope xs).map (·.1)).Nodup := List.Sublist.nodup (zip_sub _ _) W.nd
theorem call_env (W : FWF fd.scope nv) (hg : fd.globals = mainGlobals) (hB : fd.builtins = builtinsNs) (hlen : vs.length ≤ nv)
    (I1 : SR σ0 φ0 s1) (r : VRs φ0 s.heap vs xs) (im : ImmK s.heap s1.heap) (hφ : ∀ a ∈ φ0, ∃ o, s.heap.get? a = some o) (H : Hb s.heap)
    (C : InCallC s (callEnvC fd s.heap.objs.size fa).locals (bindL (callEnvC fd s.heap.objs.size fa).kindOf (bindsOf fd.scope xs) fun _ => none) (callEnvC fd s.heap.objs.size fa).cells (bindC (callEnvC fd s.heap.objs.size fa).kindOf (bindsOf fd.scope xs) fun _ => none) s1) :
    Frm fd.scope (callEnvC fd s.heap.objs.size fa) s.heap ∧ FR (callEnvC fd s.heap.objs.size fa) (vs.map some ++ nones (nv - vs.length)) φ0 s1 := by
  have hcell : ∀ n, (n, NameKind.cell) ∈ fd.scope.names → ∃ c, (callEnvC fd s.heap.objs.size fa).cells.lookup n = some c ∧ s.heap.objs.size < c := fun n hn => by
    obtain ⟨c, h1, _, h3⟩ := cf_cell fd.scope.names (s.heap.push { cls := .type "dict", data := .dict #[] }) [] n W.nd hn
    rw [Heap.size_push] at h1 h3
    exact ⟨c, h1, h3⟩
  have hmem : ∀ {i : Nat} {n : PySem.Str} {k : NameKind} {x : V}, fd.scope.names[i]? = some (n, k) → (vs.map some ++ nones (nv - vs.length))[i]? = some (some x) → ∃ y, (n, y) ∈ bindsOf fd.scope xs ∧ VR φ0 s1.heap x y := fun {i n k x} hn hx => by
    obtain ⟨y, e, ry⟩ := r.get (start_get hx)
    refine ⟨y, List.mem_of_getElem? (i := i) (List.getElem?_zip_eq_some.mpr ⟨At.of hn, e⟩), ry.mono (.refl φ0) im⟩
  have nofree : ∀ {i : Nat} {n : PySem.Str} {P : Prop}, fd.scope.names[i]? = some (n, .free) → P := fun h => absurd rfl (W.free _ (List.mem_of_getElem? h))
  refine ⟨⟨⟨rfl, fun i n k h => .inl h, fun n h => h, W.fn, W.nd, W.plain, hg, hB, new_addr _, fun n n' c h h' => ?_⟩, fun i n k h => ⟨fun _ ⟨k0, q⟩ => W.zero k0 q, fun hk => ?_⟩, H⟩, ⟨fun i hi => ?_, ?_, fun i n k h hk => ?_, fun h => ?_⟩⟩
  · exact cf_inj _ _ _ (fun n c e => (Option.some_ne_none _ e.symm).elim) (fun n n' c e => (Option.some_ne_none _ e.symm).elim) n n' c h h'
  · rcases hk with rfl | rfl
    · refine ⟨rfl, fun c hc => no_obj fun o q => ?_⟩
      obtain ⟨c', h1, h2⟩ := hcell n (List.mem_of_getElem? h)
      cases hc.symm.trans h1
      exact Nat.lt_asymm (Heap.lt_size q) h2
    · exact nofree h
  · have hi' : i < nv := by
      rw [List.length_append, List.length_map, nones_len, Nat.add_sub_cancel' hlen] at hi
      exact hi
    obtain ⟨n, k, h1, h2⟩ := W.own i hi'
    exact ⟨n, k, h1, h2.imp id fun h => .inl (.inl h)⟩
  · refine ⟨_, C.toInCall.ns, fun i n x h hx => ?_⟩
    obtain ⟨y, hy, ry⟩ := hmem h hx
    exact ⟨y, bindL_get (binds_nd W) hy (lookup_at W.nd h), ry⟩
  · rcases hk with rfl | rfl
    · obtain ⟨c, h1, h2⟩ := hcell n (List.mem_of_getElem? h)
      refine ⟨c, _, h1, C.cell n c h1, fun x hx => ?_⟩
      obtain ⟨y, hy, ry⟩ := hmem h hx
      exact ⟨y, bindC_get (binds_nd W) hy (lookup_at W.nd h), ry⟩
    · exact nofree h
  · obtain ⟨o, e⟩ := hφ _ h
    exact absurd (Heap.lt_size e) (Nat.lt_irrefl _)
end
end
section
set_option maxHeartbeats 2000000
set_option backward.match.sparseCases false
open PySem PySem.W PyProof.Rows PySem.Calls
theorem vsm_eq (a : V) : ∀ b, vsm a b = true → a = b := by
  refine V.rec (motive_1 := fun a => ∀ b, vsm a b = true → a = b) (motive_2 := fun as => ∀ bs, vsms as bs = true → as = bs) ?_ ?_ ?_ ?_ ?_ ?_ ?_ ?_ ?_ ?_ a
  · intro b h; cases b with | none => rfl | _ => cases h
  · intro x b h; cases b with | bool y => exact congrArg V.bool (beq_iff_eq.mp h) | _ => cases h
  · intro x b h; cases b with | int y => exact congrArg V.int (beq_iff_eq.mp h) | _ => cases h
  · intro x b h; cases b with | str y => exact congrArg V.str (beq_iff_eq.mp h) | _ => cases h
  · intro x ih b h; cases b with | tup y => exact congrArg V.tup (ih y h) | _ => cases h
  · intro x y z b h
    cases b with
    | rng x' y' z' =>
      obtain ⟨h1, h2, h3⟩ := and3 h
      rw [beq_iff_eq.mp h1, beq_iff_eq.mp h2, beq_iff_eq.mp h3]
    | _ => cases h
  · intro x b h; cases b with | ref y => exact congrArg V.ref (beq_iff_eq.mp h) | _ => cases h
  · intro x b h; cases b with | adr y => exact congrArg V.adr (beq_iff_eq.mp h) | _ => cases h
  · intro bs h; cases bs with | nil => rfl | cons _ _ => cases h
  · intro x xs ih ihs bs h
    cases bs with
    | nil => cases h
    | cons y ys => rw [ih y (and2 h).1, ihs ys (and2 h).2]
theorem vsms_eq {as : List V} : ∀ {bs : List V}, vsms as bs = true → as = bs := by
  induction as with
  | nil => intro bs h; cases bs with | nil => rfl | cons _ _ => cases h
  | cons x xs ih =>
    intro bs h
    cases bs with
    | nil => cases h
    | cons y ys => rw [vsm_eq x y (and2 h).1, ih (and2 h).2]
theorem kvsm_eq {κ : Type} [BEq κ] [LawfulBEq κ] {a : List (κ × V)} : ∀ {b : List (κ × V)}, kvsm a b = true → a = b := by
  induction a with
  | nil => intro bs h; cases bs with | nil => rfl | cons _ _ => cases h
  | cons x xs ih =>
    intro bs h
    cases bs with
    | nil => cases h
    | cons y ys =>
      obtain ⟨h1, h2, h3⟩ := and3 h
      rw [Prod.ext (beq_iff_eq.mp h1) (vsm_eq _ _ h2), ih h3]
theorem osm_eq {a b : O} (h : osm a b = true) : a = b := by
  cases a with
  | list x => cases b with | list y => exact congrArg O.list (vsms_eq h) | _ => cases h
  | dI x => cases b with | dI y => exact congrArg O.dI (kvsm_eq h) | _ => cases h
  | dS x => cases b with | dS y => exact congrArg O.dS (kvsm_eq h) | _ => cases h
  | it x i => cases b with | it y j => rw [beq_iff_eq.mp (and2 h).1, beq_iff_eq.mp (and2 h).2] | _ => cases h
section
variable {σ σ0 σ1 σ' : St} {φ φ0 φ1 : List Addr} {s s' s1 : Shared} {fd : FuncData} {fa a : Addr} {nv np d : Nat} {vs : List V} {xs : List Value} {o o0 o1 : O} {k0 : Option Nat} {ids : List Nat} {as : List Addr} {v : V}
theorem Ad.mem (h : Ad φ ids as) (ha : a ∈ as) : ∃ k, k ∈ ids ∧ φ[k]? = some a := by
  have : some a ∈ ids.map (φ[·]?) := (show ids.map (φ[·]?) = as.map some from h) ▸ List.mem_map_of_mem ha
  exact List.mem_map.mp this
theorem Ad.nodup (n0 : φ.Nodup) (h : Ad φ ids as) (n : ids.Nodup) : as.Nodup := by
  have h : ids.map (φ[·]?) = as.map some := h
  have h1 : (ids.map (φ[·]?)).Nodup := List.pairwise_map.mpr (List.Pairwise.imp_of_mem (fun {k k'} hk hk' ne e => ne (by
    obtain ⟨a, _, ha⟩ := List.mem_map.mp (h ▸ List.mem_map_of_mem hk : φ[k]? ∈ as.map some)
    exact (List.getElem?_inj (lt_of_get ha.symm) n0).mp e)) n)
  rw [h] at h1
  exact List.Pairwise.imp (fun ne e => ne (congrArg some e)) (List.pairwise_map.mp h1)
theorem same_get : ∀ {n k : Nat} {x y : St}, sameAll k0 n x y = true → x[k]? = some o → ∃ o', y[k]? = some o' ∧ (o' = o ∨ (k0 = some (n + k) ∧ ∃ j i i', o = .it j i ∧ o' = .it j i')) := by
  intro n k x
  induction x generalizing n k with
  | nil => exact fun _ e => nomatch e
  | cons b r ih =>
    intro y h e
    cases y with
    | nil => cases h
    | cons c q =>
      have h := and2 h
      cases k with
      | zero =>
        cases e
        refine ⟨c, rfl, (Bool.or_eq_true_iff.mp h.1).imp (fun h => (osm_eq h).symm) fun h => ?_⟩
        have h := and2 h
        refine ⟨beq_iff_eq.mp h.1, ?_⟩
        cases o with
        | it j i => cases c with | it j' i' => exact ⟨j, i, i', rfl, by rw [beq_iff_eq.mp h.2]⟩ | _ => cases h.2
        | _ => cases h.2
      | succ k =>
        obtain ⟨o', h1, h2⟩ := ih h.2 e
        exact ⟨o', h1, h2.imp id fun ⟨h3, h4⟩ => ⟨h3.trans (congrArg some (Nat.succ_add_eq_add_succ n k)), h4⟩⟩
noncomputable def bump (d : Nat) : O → O
  | .it j i => .it j (i + d)
  | o => o
theorem bump0 : bump 0 o = o := by cases o <;> rfl
theorem itGo_same {h : Heap} (r : OR φ h o a) (r0 : OR φ0 h o0 a) : itGo o o0 = o := by
  cases o with
  | it J i =>
    cases o0 with
    | it j i0 => rw [(it_uniq r r0).1]; rfl
    | _ => rfl
  | _ => rfl
theorem drawn_inv {j d : Nat} (h1 : σ0[j]? = some o0) (h2 : σ1[j]? = some o1) (hd : drawn (some j) σ0 σ1 = some d) : (∃ J i, o0 = .it J i ∧ ∃ J', o1 = .it J' (i + d)) ∨ (d = 0 ∧ ∀ J i J' i', o0 = .it J i → o1 = .it J' i' → False) := by
  unfold drawn at hd
  dsimp only at hd
  rw [h1, h2] at hd
  cases o0 with
  | it J i =>
    cases o1 with
    | it J' i' =>
      have hle := ite_c hd
      have hv := Option.some.inj (ite_v hd)
      exact .inl ⟨J, i, rfl, J', by rw [← hv, Nat.add_sub_cancel' hle]⟩
    | _ => exact .inr ⟨(Option.some.inj hd).symm, fun _ _ _ _ _ q => nomatch q⟩
  | _ => exact .inr ⟨(Option.some.inj hd).symm, fun _ _ _ _ q _ => nomatch q⟩
theorem itGo_draw {h : Heap} {j d : Nat} (r : OR φ h o a) (r0 : OR φ0 h o0 a) (h1 : σ0[j]? = some o0) (h2 : σ1[j]? = some o1) (hs : o1 = o0 ∨ (k0 = some j ∧ ∃ j i i', o0 = .it j i ∧ o1 = .it j i')) (hd : drawn k0 σ0 σ1 = some d) :
    (k0 = some j → itGo o o1 = bump d o) ∧ (k0 ≠ some j → itGo o o1 = o) := by
  refine ⟨fun hk => ?_, fun hk => ?_⟩
  · subst hk
    rcases drawn_inv h1 h2 hd with ⟨J, i, rfl, J', rfl⟩ | ⟨rfl, hn⟩
    · cases o with
      | it J2 i2 => rw [(it_uniq r r0).1]; rfl
      | _ => rfl
    · rcases hs with rfl | ⟨_, _, _, _, q1, q2⟩
      · rw [bump0]; exact itGo_same r r0
      · exact (hn _ _ _ _ q1 q2).elim
  · rcases hs with rfl | ⟨q, _⟩
    · exact itGo_same r r0
    · exact absurd q hk
theorem back_SR (C : ScrOK) (I : SR σ φ s) (Ia : SR σ0 φ0 s) (I2 : SR σ1 φ1 s') (hp : Pre φ0 φ1) (hsub : ∀ a ∈ φ0, a ∈ φ) (g : Go (· ∈ φ0) s s') (hs : sameAll k0 0 σ0 σ1 = true) (hd : drawn k0 σ0 σ1 = some d)
    (hc : (σ' = σ ∧ d = 0) ∨ ∃ k o a, σ[k]? = some o ∧ φ[k]? = some a ∧ σ' = σ.set k (bump d o) ∧ ∀ j, k0 = some j → φ0[j]? = some a) : SR σ' φ s' := by
  have main : ∀ (K : Nat) (o : O) (a : Addr), σ[K]? = some o → φ[K]? = some a → (∀ j, φ0[j]? = some a → k0 = some j → OR φ s'.heap (bump d o) a) ∧ ((∀ j, φ0[j]? = some a → k0 = some j → d = 0) → OR φ s'.heap o a) := by
    intro K o a hK ha
    have hr := I.obj hK ha
    have at_ : ∀ j, φ0[j]? = some a → (k0 = some j → OR φ s'.heap (bump d o) a) ∧ (k0 ≠ some j → OR φ s'.heap o a) := fun j hj => by
      obtain ⟨o0, h1, h2⟩ := Ia.lookup hj
      obtain ⟨o1, h3, h4⟩ := same_get hs h1
      rw [Nat.zero_add] at h4
      have h6 := I2.obj h3 (hp _ _ hj)
      have hm := OR.move C I Ia hp hr h2 h6 (h4.imp id fun h => h.2)
      obtain ⟨q1, q2⟩ := itGo_draw hr h2 h1 h3 h4 hd
      exact ⟨fun hk => q1 hk ▸ hm, fun hk => q2 hk ▸ hm⟩
    refine ⟨fun j hj hk => (at_ j hj).1 hk, fun h0 => ?_⟩
    by_cases hm : a ∈ φ0
    · obtain ⟨j, hj⟩ := List.mem_iff_getElem?.mp hm
      by_cases hk : k0 = some j
      · have := (at_ j hj).1 hk
        rwa [h0 j hj hk, bump0] at this
      · exact (at_ j hj).2 hk
    · exact hr.mono (.refl φ) (I.immK g hsub) fun ob e => g.keep a ob e hm
  rcases hc with ⟨rfl, h0⟩ | ⟨k, o2, a2, ek, ea, rfl, hj⟩
  · exact ⟨I2.keep, I.len, I.nd, I.fresh, fun K o e => by
      obtain ⟨a, ha, _⟩ := I.objs K o e
      exact ⟨a, ha, (main K o a e ha).2 fun _ _ _ => h0⟩, I2.bare⟩
  · refine ⟨I2.keep, I.len.trans List.length_set.symm, I.nd, I.fresh, fun K o e => ?_, I2.bare⟩
    by_cases hK : k = K
    · subst hK
      rw [List.getElem?_set_self (lt_of_get ek)] at e
      cases e
      refine ⟨a2, ea, ?_⟩
      cases k0 with
      | none =>
        cases hd
        rw [bump0]
        exact (main k o2 a2 ek ea).2 fun _ _ _ => rfl
      | some j => exact (main k o2 a2 ek ea).1 j (hj j rfl) rfl
    · rw [List.getElem?_set_ne hK] at e
      obtain ⟨a, ha, _⟩ := I.objs K o e
      exact ⟨a, ha, (main K o a e ha).2 fun j h1 h2 => by
        cases (hj j h2).symm.trans h1
        exact absurd ((List.getElem?_inj (lt_of_get ea) I.nd).mp (ea.trans ha.symm)) hK⟩
structure DefOK (fd : FuncData) (fa : Addr) (nv np : Nat) (body : List Stmt) : Prop where
  ob : ∃ o, hb.get? fa = some o ∧ o.data = .func fd
  scr : ScrOK
  lim : hb.NoLimit
  cd : hb.CodeRec fd.code fd.qualname
  clo : fd.closure = []
  glob : fd.globals = mainGlobals
  blt : fd.builtins = builtinsNs
  co : fd.scope.isCoroutine = false
  gen : fd.scope.isGenerator = false
  wf : FWF fd.scope nv
  hnp : np ≤ nv
  body : fd.body = .stmts body
  bind : ∀ xs : List Value, xs.length = np → bindArgs fd ⟨xs, []⟩ = pure (bindsOf fd.scope xs)
theorem runF_inv {ms : MS} {ts : List T} {r : T × Nat} (e : runF nv ms ts = some r) : ∃ v ρ σ ids, ms ((thaws ts []).1.map some ++ nones (nv - ts.length), (thaws ts []).2) = some (.ret v, ρ, σ) ∧ frz σ 8 v = some (r.1, ids) ∧ ids.Nodup ∧ (∀ k ∈ ids, (thaws ts []).2.length ≤ k) ∧ sameAll (argIt (thaws ts []).1) 0 (thaws ts []).2 σ = true ∧ drawn (argIt (thaws ts []).1) (thaws ts []).2 σ = some r.2 := by
  unfold runF at e
  dsimp only at e
  cases e1 : ms ((thaws ts []).1.map some ++ nones (nv - ts.length), (thaws ts []).2) with
  | none => rw [e1] at e; cases e
  | some p =>
    obtain ⟨f, ρ, σ⟩ := p
    rw [e1] at e
    cases f with
    | ret v =>
      dsimp only at e
      cases e2 : frz σ 8 v with
      | none => rw [e2] at e; cases e
      | some q =>
        rw [e2] at e
        obtain ⟨h1, h2, h3⟩ := and3 (ite_c e)
        obtain ⟨d, h4, h5⟩ := map_inv (ite_v e)
        cases h5
        exact ⟨v, ρ, σ, q.2, rfl, e2, of_decide_eq_true h1, fun k hk => of_decide_eq_true (List.all_eq_true.mp h2 k hk), h3, h4⟩
    | _ => cases e
theorem callT_inv {Ff : List T → Option (T × Nat)} {r : V × St} (e : callT Ff vs σ = some r) : ∃ ts ids t d σc, frzL (frz σ 8) vs = some (ts, ids) ∧ ids.Nodup ∧ Ff ts = some (t, d) ∧ drawS d vs σ = some σc ∧ thaw t σc = r := by
  unfold callT at e
  cases e1 : frzL (frz σ 8) vs with
  | none => rw [e1] at e; cases e
  | some q =>
    rw [e1] at e
    have h1 := of_decide_eq_true (ite_c e)
    have e := ite_v e
    cases e2 : Ff q.1 with
    | none => rw [e2] at e; cases e
    | some p =>
      rw [e2] at e
      obtain ⟨σc, h2, h3⟩ := map_inv e
      exact ⟨_, _, _, _, σc, rfl, h1, e2, h2, h3⟩
theorem drawS_inv {σc : St} (e : drawS d vs σ = some σc) : (σc = σ ∧ d = 0) ∨ ∃ k r o, vs = .ref k :: r ∧ σ[k]? = some o ∧ σc = σ.set k (bump d o) := by
  cases d with
  | zero => cases e; exact .inl ⟨rfl, rfl⟩
  | succ d =>
    right
    cases vs with
    | nil => cases e
    | cons v r =>
      cases v with
      | ref k =>
        have e : (match σ[k]? with
          | some (.it j i) => some (σ.set k (.it j (i + (d + 1))))
          | _ => none) = some σc := e
        cases q : σ[k]? with
        | none => rw [q] at e; cases e
        | some o =>
          rw [q] at e
          cases o with
          | it j i => cases e; exact ⟨k, r, _, rfl, q, rfl⟩
          | _ => cases e
      | _ => cases e
end
end
section
set_option maxHeartbeats 2000000
set_option backward.match.sparseCases false
open PySem PySem.W PyProof.Rows PySem.Calls
section
variable {fd : FuncData} {fa : Addr} {nv np d : Nat} {body : List Stmt} {ms : MS}
theorem sr0 {σ : St} {φ : List Addr} {s : Shared} (I : SR σ φ s) : SR [] [] s := ⟨I.keep, rfl, List.nodup_nil, fun a ha => absurd ha List.not_mem_nil, (fun k o e => nomatch e), I.bare⟩
theorem binds_kind (W : FWF fd.scope nv) {h : Heap} {xs : List Value} (hl : xs.length ≤ nv) : ∀ x ∈ bindsOf fd.scope xs, fd.scope.names.lookup x.1 = some .local ∨ (fd.scope.names.lookup x.1 = some .cell ∧ ((cellsFrom (h.objs.size + 1) fd.scope.names []).lookup x.1).isSome = true) := fun x hx => by
  obtain ⟨i, hi⟩ := List.mem_iff_getElem?.mp hx
  obtain ⟨hi1, hi2⟩ := List.getElem?_zip_eq_some.mp hi
  obtain ⟨n, k, hn, hk⟩ := W.own i (Nat.lt_of_lt_of_le (lt_of_get hi2) hl)
  have e1 : n = x.1 := Option.some.inj ((At.of hn).symm.trans hi1)
  rw [← e1]
  refine hk.imp (fun q => lookup_at W.nd (q ▸ hn)) fun q => ⟨lookup_at W.nd (q ▸ hn), ?_⟩
  obtain ⟨c, h1, _⟩ := cf_cell fd.scope.names (h.push { cls := .type "dict", data := .dict #[] }) [] n W.nd (List.mem_of_getElem? (q ▸ hn))
  rw [Heap.size_push] at h1
  rw [h1]; rfl
theorem thaws_len (ts : List T) : ∀ σ, (thaws ts σ).1.length = ts.length := by
  induction ts with
  | nil => exact fun _ => rfl
  | cons t ts ih => exact fun σ => congrArg Nat.succ (ih _)
theorem arg_ref {s : Shared} {φ φ0 : List Addr} {k j : Nat} {r vs0 : List V} {xs : List Value} {a : Addr} (r1 : VRs φ s.heap (.ref k :: r) xs) (r2 : VRs φ0 s.heap vs0 xs) (ka : φ[k]? = some a) (e : argIt vs0 = some j) : φ0[j]? = some a := by
  cases r1 with | cons q _ =>
  obtain ⟨a', rfl, ka'⟩ := q.ref'
  cases ka.symm.trans ka'
  cases r2 with | @cons v0 _ _ _ q0 _ =>
  cases v0 with
  | ref k0 =>
    cases e
    obtain ⟨a2, e2, h2⟩ := q0.ref'
    cases e2; exact h2
  | _ => cases e
theorem FSnd_of {Ff : List T → Option (T × Nat)} (D : DefOK fd fa nv np body) (HB : ∀ A, RoomA A d → SndSs A fd.scope body ms)
    (spec : ∀ ts r, Ff ts = some r → ts.length = np ∧ runF nv ms ts = some r) : FSnd (d + 1) Ff fa := by
  intro A vs xs σ φ s v σ' Q E R I r e h
  obtain ⟨ts, ids, t, dd, σc, efz, hnd, hF, hdr, hth⟩ := callT_inv e
  obtain ⟨hlen, hrun⟩ := spec ts _ hF
  obtain ⟨hxl, as, had, hth0⟩ := frzL_th (frz_th I 8) efz r
  have nda : as.Nodup := had.nodup I.nd hnd
  have hsub : ∀ a ∈ as, a ∈ φ := fun a ha => Exists.elim (had.mem ha) fun k e => List.mem_of_getElem? e.2
  obtain ⟨Ia, ra⟩ := hth0 [] [] (sr0 I) nda fun a ha => I.fresh a (hsub a ha)
  rw [List.nil_append] at Ia ra
  -- the callee's run
  obtain ⟨v', ρ', σ2, ids', hex, hfz, hc1, hc2, hc3, hd⟩ := runF_inv hrun
  obtain ⟨o, ho, hdata⟩ := D.ob
  have hxl : xs.length = np := hxl.symm.trans hlen
  refine wpAny_call (codeAny_call_cells (Nat.lt_of_le_of_lt (Nat.le_add_right _ _) R.dep) (I.keep _ _ ho) hdata (D.lim.keeps I.keep) (D.cd.keeps I.keep) D.body (D.bind xs hxl) D.clo (binds_kind D.wf (hxl ▸ D.hnp)) ?_ D.co D.gen D.wf.fn)
  intro s1 C
  obtain ⟨h1, tk, e1⟩ := C.toInCall.same
  have g1 : Nw s s1 := by subst e1; exact nw_keep C.toInCall.keep
  have b1 : AllBare s1.gens := by subst e1; exact I.bare
  have Ia1 := Ia.nw' g1 b1
  obtain ⟨W, F⟩ := call_env D.wf D.glob D.blt (by rw [thaws_len, hlen]; exact D.hnp) Ia1 ra (Nw.imm g1) (fun a ha => Exists.elim (Ia.there ha) fun ob q => ⟨ob, Exists.elim q fun _ q => q.1⟩) I.keep C
  rw [thaws_len] at F
  have hR : RoomA (A.deeper (callEnvC fd s.heap.objs.size fa)) d := ⟨R.hh, by have := R.dep; show A.depth + 1 + d < _; omega, by have := R.un; show A.units + 3 + 10 * d + 110 < _; omega⟩
  refine (HB _ hR).run W Ia1 F hex fun f s2 φ2 hf I2 F2 t2 => ?_
  cases hf with
  | ret rv =>
    have g : Go (· ∈ as) s s2 := ⟨⟨fun a o e n => t2.keep a o (g1.keep a o e id) n (.inr ⟨o, e⟩), t2.os.trans g1.os, fun i y e => t2.gens i y (g1.gens i y e)⟩, fun a o e => t2.live a o (g1.keep a o e id)⟩
    obtain ⟨bs, hadb, hthb⟩ := frz_th I2 8 v' _ ids' _ hfz rv
    have ndb : bs.Nodup := hadb.nodup I2.nd hc1
    have hfr : ∀ a ∈ bs, s.heap.get? a = none := fun a ha => by
      obtain ⟨k, hk, ek⟩ := hadb.mem ha
      have hge := hc2 k hk
      rw [← Ia.len] at hge
      rcases t2.ext.2 a (List.mem_of_getElem? ek) with h1 | h1
      · obtain ⟨j, ej⟩ := List.mem_iff_getElem?.mp h1
        have ej2 := t2.ext.1 _ _ ej
        cases (List.getElem?_inj (lt_of_get ej2) I2.nd).mp (ej2.trans ek.symm)
        exact absurd (lt_of_get ej) (Nat.not_lt.mpr hge)
      · exact no_obj fun ob q => none_some h1 (g1.keep _ _ q id)
    have hnd2 : (φ ++ bs).Nodup := List.nodup_append.mpr ⟨I.nd, ndb, fun x hx y hy exy => I.new (hfr y hy) (exy ▸ hx)⟩
    have stp : Stp φ s (φ ++ bs) s2 := ⟨.app hfr, g.mono hsub⟩
    have Ic : SR σc φ s2 := by
      refine back_SR D.scr I Ia I2 t2.ext.1 hsub g hc3 hd ((drawS_inv hdr).imp id fun ⟨k, r0, o, hv, ho, hs⟩ => ?_)
      subst hv
      obtain ⟨a, ea, _⟩ := I.objs _ _ ho
      exact ⟨k, o, a, ho, ea, hs, fun j hj => arg_ref r ra ea hj⟩
    obtain ⟨I3, r3⟩ := hthb σc φ Ic hnd2 fun a ha => I.hbn (hfr a ha)
    rw [hth] at I3 r3
    exact h _ s2 (φ ++ bs) r3 I3 stp
end
end
section
set_option maxHeartbeats 2000000
open PySem PySem.W PyProof.Rows PySem.Calls
section
variable {A : Around} {R : GenEnd} {Y : Protocol} {n : Nat} {s₀ : Shared} {c : Code} {fs : List Frame} {s : Shared} {env : Env}
  {K : Flow → Sem Fin} {H : Value → Sem Fin} {gd : Bool → Bool} {lv : List Value → List Value}
noncomputable abbrev forFrame (env : Env) (K : Flow → Sem Fin) (H : Value → Sem Fin) (gd : Bool → Bool) (lv : List Value → List Value) (c : Code) (p : Pos) : Frame :=
  .ret (fun r => ((match r with | .ok f => (.pure f : Sem Flow) | .error e => .raise e).onRaise fun (x : Value) => do
        if (← field x 1) == Value.none then unsupported "frame.own-activation:exception-without-traceback"
        setFlight x env.frame).wrap K H gd lv) none (gd false) (lv []) c p []
theorem seg_If {test : PySem.Expr} {body orelse : List PySem.Stmt} {pos : Pos}
    (h : wpAny (model prog w) (A.over c fs) (PySem.isTrue test env (eval test env)) (fun b s' => if b = true then Seg (model prog w) A R Y n s₀ c ((execs body env).wrap K H gd lv) fs s' else Seg (model prog w) A R Y n s₀ c ((execs orelse env).wrap K H gd lv) fs s')
      (fun x s' => Seg (model prog w) A R Y n s₀ c (H x) fs s') s) :
    Seg (model prog w) A R Y n s₀ c ((exec (.If test body orelse pos) env).wrap K H gd lv) fs s := by
  rw [exec_If]
  refine seg_bind_wrap (wpAny_standAt ?_)
  refine seg_bind_wrap (wpAny_mono h (fun b s' hb => ?_) fun _ _ e => e)
  cases b with
  | true => rw [if_pos rfl] at hb; exact hb
  | false => rw [if_neg (by decide)] at hb; exact hb
theorem seg_For {target iter : PySem.Expr} {body orelse : List PySem.Stmt} {pos : Pos} (hs : ∀ x, foldedSetIterable iter env x = pure x)
    (h : wpAny (model prog w) (A.over c fs) (eval iter env) (fun x s₁ => wpAny (model prog w) (A.over c fs) (pyIter x) (fun it s₂ => ∀ p,
        Seg (model prog w) A R Y n s₀ (.forLoop target it body orelse env) ((model prog w).den (.forLoop target it body orelse env)) (forFrame env K H gd lv c p :: fs) s₂)
        (fun x s' => Seg (model prog w) A R Y n s₀ c (H x) fs s') s₁) (fun x s' => Seg (model prog w) A R Y n s₀ c (H x) fs s') s) :
    Seg (model prog w) A R Y n s₀ c ((exec (.For target iter body orelse pos) env).wrap K H gd lv) fs s := by
  rw [exec_For]
  refine seg_bind_wrap (wpAny_standAt ?_)
  refine seg_bind_wrap (wpAny_mono h (fun x s₁ h₁ => ?_) fun _ _ e => e)
  refine seg_bind_wrap (wpAny_of_eq (hs x) ?_)
  refine seg_bind_wrap (wpAny_standAt ?_)
  refine seg_bind_wrap (wpAny_holding (wpAny_mono h₁ (fun it s₂ h₂ => ?_) fun _ _ e => e))
  exact seg_call h₂
theorem seg_forLoop {target : PySem.Expr} {it : Value} {body orelse : List PySem.Stmt}
    (h : wpAny (model prog w) (A.over (.forLoop target it body orelse env) fs) (pyNext it) (fun r s₁ => match r with
        | none => Seg (model prog w) A R Y n s₀ (.block orelse env) ((model prog w).den (.block orelse env)) fs s₁
        | some v => wpAny (model prog w) (A.over (.forLoop target it body orelse env) fs) (letOwnedTupleGo target it v) (fun _ s₂ =>
            wpAny (model prog w) (A.over (.forLoop target it body orelse env) fs) (assign target env v) (fun _ s₃ =>
              Seg (model prog w) A R Y n s₀ (.forLoop target it body orelse env) ((execs body env).wrap (fun f => match f with
                | .next | .cont => .pure (.again (.forLoop target it body orelse env))
                | .brk => .pure (.done .next)
                | .ret v => .pure (.done (.ret v))) (fun e => (do noteFrame e env; theTreesLotGoes e : Sem Unit).wrap (fun _ => .raise e) .raise id id) id id) fs s₃)
              (fun _ _ => False) s₂) (fun _ _ => False) s₁) (fun _ _ => False) s) :
    Seg (model prog w) A R Y n s₀ (.forLoop target it body orelse env) ((model prog w).den (.forLoop target it body orelse env)) fs s := by
  show Seg _ A R Y n s₀ _ ((forTurn target it body orelse env).onRaise (fun x => do noteFrame x env; theTreesLotGoes x)) fs s
  unfold forTurn
  rw [Sem.onRaise_eq_wrap]
  refine seg_bind_wrap (wpAny_standAt ?_)
  refine seg_bind_wrap (wpAny_onRaise (wpAny_mono h (fun r s₁ h₁ => ?_) fun _ _ e => e.elim))
  cases r with
  | none => exact seg_again rfl h₁
  | some v =>
    refine seg_bind_wrap (wpAny_mono h₁ (fun _ s₂ h₂ => ?_) fun _ _ e => e.elim)
    refine seg_bind_wrap (wpAny_mono h₂ (fun _ s₃ h₃ => ?_) fun _ _ e => e.elim)
    rw [Sem.bind_eq_wrap', Sem.wrap_wrap]
    rw [Sem.wrap_congr (execs body env) _ _ (K' := fun f => match f with
            | .next | .cont => .pure (.again (.forLoop target it body orelse env))
            | .brk => .pure (.done .next)
            | .ret v => .pure (.done (.ret v))) (H' := (fun e => (do noteFrame e env; theTreesLotGoes e : Sem Unit).wrap (fun _ => .raise e) .raise id id))
        (fun f => by cases f <;> rfl)
        (fun e => by first | exact Sem.bind_eq_wrap _ _ | (show (do noteFrame e env; theTreesLotGoes e : Sem Unit).bind (fun _ => .raise e) = _; rw [Sem.bind_eq_wrap]))]
    exact h₃
theorem seg_block_nil {K' : Unit} (h : Seg (model prog w) A R Y n s₀ (.block [] env) (.pure (.done .next)) fs s) :
    Seg (model prog w) A R Y n s₀ (.block [] env) ((model prog w).den (.block [] env)) fs s := h
theorem seg_plain {st : PySem.Stmt} (h : wpAny (model prog w) (A.over c fs) (exec st env) (fun f s' => Seg (model prog w) A R Y n s₀ c (K f) fs s') (fun x s' => Seg (model prog w) A R Y n s₀ c (H x) fs s') s) :
    Seg (model prog w) A R Y n s₀ c ((exec st env).wrap K H gd lv) fs s := seg_wrap h
end
section
variable {A : Around} {E : Value → Shared → Prop} {s : Shared}
theorem pyNext_genQ {a : Addr} {g n : Nat} {gs : GenState} {P : Nat → Shared → Shared → Prop} {Y : Protocol} {Q : Option Value → Shared → Prop} (hh : A.handled = none)
    (hl : s.heap.NoLimit) (hroom : A.depth < recursionLimit)
    (hg : s.heap.IsGen a g) (hgs : s.gens[g]? = some gs)
    (hgo : gs.Goes (model prog w) A.in1 (fun n s₀ r s₁ => r = .ok (.ret .none) ∧ P n s₀ s₁) Y n (.send .none) (s.setGen g .running))
    (hY : ∀ v s₁ gs', gs'.bare = true → Y (n - 1) (s.setGen g .running) v s₁ (fun r' s'' => match n with
        | 0 => False
        | m + 1 => gs'.Goes (model prog w) A.in1 (fun n s₀ r s₁ => r = .ok (.ret .none) ∧ P n s₀ s₁) Y m r' s'') → Q (some v) (s₁.setGen g gs'))
    (hP : ∀ s₁, P n (s.setGen g .running) s₁ → ∀ h', (∀ b o, s₁.heap.get? b = some o → h'.get? b = some o) → Q none { s₁.setGen g .finished with heap := h' }) :
    wpAny (model prog w) A (pyNext (.ref a)) Q E s := by
  unfold pyNext
  refine wpAny_bind (wpAny_attempt (wpAny_callSpecial?_slot (name := Str.ofString "__next__") hg.typeIs slot_gen_next
    (wpAny_call_entry slot_gen_next hg.typeIs entry_gen_next ?_ (args_gen_next _))))
  show wpAny _ A.in1 (Builtin.Generator.genWake (.ref a) (.send .none)) _ _ s
  unfold Builtin.Generator.genWake
  refine wpAny_bind (wpAny_holding (wpAny_genNumber hg (wpAny_bind (wpAny_genState hgs ?_))))
  cases gs with
  | running => exact hgo.elim
  | finished => exact hgo.elim
  | _ =>
    refine wpAny_bind (wpAny_roomToWake hl hroom ?_)
    show wpAny _ A.in1 (.resume g (.send .none) [] _) _ _ s
    refine wpAny_resumeQ hgs hgo (fun x s₁ hx => ?_) (fun v s₁ gs' hb hv => ?_)
    · obtain ⟨rfl, hp⟩ := hx
      show wpAny _ A.in1 (newExc (.type "StopIteration") [] >>= _) _ _ _
      refine wpAny_bind ?_
      simp only [newExc, newTuple]
      refine wpAny_bind (wpAny_newObj_type ?_ (by size_fits))
      refine wpAny_bind (m := firstArgMember _ _) (wpAny_of_eq (a := Value.none) (by first | rfl | (simp only [firstArgMember]; rfl)) ?_)
      refine wpAny_newObj_type ?_ (by size_fits)
      simp only [raiseNew]
      refine wpAny_bind (wpAny_bind (wpAny_handled ?_))
      first | rw [show A.in1.handled = none from hh] | rw [hh]
      refine wpAny_throw ?_
      refine wpAny_bind (wpAny_isInstance (T := "StopIteration") (b := true) ⟨_, Heap.get?_push_size _ rfl, rfl⟩ isSubtype_stop ?_)
      exact wpAny_pure (hP s₁ hp _ fun b o hb => Heap.get?_push_of_some _ (Heap.get?_push_of_some _ hb))
    · exact wpAny_pure ⟨v, rfl, wpAny_pure (hY v s₁ gs' hb hv)⟩
end
end
section
set_option maxHeartbeats 2000000
open PySem PySem.W PyProof.Rows PySem.Calls
set_option genSizeOf false
structure GP where
  ex : Nat → Expr
  pp : Nat → Pos
  nm : Nat → PySem.Str
noncomputable def sB (g : GP) (b : Bool) (k : Nat) : Stmt := .Assign [.Name (g.nm 2) (g.pp k)] (.Constant (.bool b) 0 (g.pp (k + 1))) (g.pp (k + 2))
noncomputable def bodyIn (g : GP) : List Stmt := [.If (g.ex 0) [.Expr (.Yield (some (g.ex 1)) (g.pp 0)) (g.pp 1), sB g false 22]
    [.If (g.ex 2) [sB g true 25] [.Expr (.Yield (some (g.ex 3)) (g.pp 2)) (g.pp 3)] (g.pp 4)] (g.pp 5)]
noncomputable def genTgt (g : GP) : Expr := .Tuple [.Name (g.nm 1) (g.pp 6), .Name (g.nm 3) (g.pp 7)] 0 (g.pp 8)
noncomputable def lastIf (g : GP) : Stmt := .If (g.ex 4) [.Expr (.Yield (some (g.ex 5)) (g.pp 9)) (g.pp 10)] [] (g.pp 11)
noncomputable def genBody (g : GP) : List Stmt := [.Assign [.Name (g.nm 1) (g.pp 12)] (.Constant (.int 0) 0 (g.pp 13)) (g.pp 14), sB g false 15,
  .For (genTgt g) (.Call (.Name "enumerate" (g.pp 18)) [.Name (g.nm 0) (g.pp 19)] [] (g.pp 20)) (bodyIn g) [] (g.pp 21), lastIf g]
noncomputable def mTup (a : ME) : ME := kEs fTup (kCons (kVar 1) (kCons a kNil))
structure GS (A : Around) (sc : Scope) (g : GP) : Prop where
  t0 : SndT A sc (g.ex 0) (tV (kVar 2))
  y1 : SndE A sc (g.ex 1) (mTup (k2 (binV .Add) (kV (.str [92])) (kVar 3)))
  s0 : SndS A sc (sB g false 22) (sAsg 2 (kV (.bool false)))
  t2 : SndT A sc (g.ex 2) (tCmp .Eq (kVar 3) (kV (.str [92])))
  s1 : SndS A sc (sB g true 25) (sAsg 2 (kV (.bool true)))
  y3 : SndE A sc (g.ex 3) (mTup (kVar 3))
  t4 : SndT A sc (g.ex 4) (tV (kVar 2))
  y5 : SndE A sc (g.ex 5) (mTup (kV (.str [92])))
  tg : TgS A sc (genTgt g) (bTup [1, 3])
  hh : A.handled = none
noncomputable def SI (o : Obj) : Prop := o.cls = .type "str_iterator" ∨ o.cls = .type "str_ascii_iterator"
theorem si_of {o : Obj} {x : List Nat} (c : o.cls = .type (strIterType (S x))) : SI o := by
  unfold SI; rw [c]; unfold strIterType; split
  · exact .inr rfl
  · exact .inl rfl
theorem SI.imm {o : Obj} (h : SI o) : ¬ Imm o := h.elim (fun h => notImm h rfl) fun h => notImm h rfl
structure Snc (L e it : Addr) (s₀ s : Shared) : Prop where
  keep : ∀ a o, a ≠ L → a ≠ e → ¬ (a = it ∧ SI o) → s₀.heap.get? a = some o → s.heap.get? a = some o
  os : s.os = s₀.os
  gens : ∀ (i : Nat) (g : GenState), s₀.gens[i]? = some g → s.gens[i]? = some g
  imm : ImmK s₀.heap s.heap
noncomputable def OwnK (e it : Addr) (h h' : Heap) : Prop := ∀ a o, (a = e ∨ (a = it ∧ SI o)) → h.get? a = some o → h'.get? a = some o
section
variable {h0 : Heap} {A : Around} {E : Value → Shared → Prop} {s s' s₀ : Shared} {sc : Scope} {env : Env} {ρ ρ' : Env1} {g : GP} {e it : Addr} {x : List Nat} {P : Heap → Prop} {all l : List V} {m : ME} {y : Expr} {v : V}
theorem Snc.refl (L e it : Addr) (s : Shared) : Snc L e it s s := ⟨fun _ _ _ _ _ e => e, rfl, fun _ _ e => e, fun _ _ e _ => e⟩
theorem Snc.trans {L : Addr} {a b c : Shared} (x : Snc L e it a b) (y : Snc L e it b c) : Snc L e it a c :=
  ⟨fun q o h1 h2 h3 h => y.keep q o h1 h2 h3 (x.keep q o h1 h2 h3 h), y.os.trans x.os, fun i g e => y.gens i g (x.gens i g e), fun a o e i => y.imm a o (x.imm a o e i) i⟩
noncomputable abbrev Kf : Flow → Sem Fin := fun f => .pure (.done (.ret (match f with | .ret v => v | _ => .none)))
noncomputable abbrev Hf (env : Env) : Value → Sem Fin := fun e => (leaving env e).wrap (fun _ => .raise e) .raise id id
noncomputable abbrev K1 (g : GP) (env : Env) : Flow → Sem Fin := fun f => match f with | .next => (execs [lastIf g] env).wrap Kf (Hf env) id id | f => Kf f
noncomputable abbrev c1 (g : GP) (env : Env) (e : Addr) : Code := .forLoop (genTgt g) (.ref e) (bodyIn g) [] env
noncomputable abbrev fs1 (g : GP) (env : Env) (c0 : Code) (p : Pos) : List Frame := [forFrame env (K1 g env) (Hf env) id id c0 p]
structure GV (h0 : Heap) (sc : Scope) (env : Env) : Prop where
  W : Frm sc env h0
  one : ∀ a, Mine1 env a → a = env.locals
  co : env.scope.isCoroutine = false
structure GC (h0 : Heap) (sc : Scope) (env : Env) (e it : Addr) : Prop extends GV h0 sc env where
  ne : e ≠ it
  he : h0.get? e = none
  hi : h0.get? it = none
  le : e ≠ env.locals
  li : it ≠ env.locals
structure GL (env : Env) (e it : Addr) (P : Heap → Prop) (s₀ : Shared) (ρ : Env1) (s : Shared) : Prop where
  I : SR [] [] s
  F : FR env ρ [] s
  p : P s.heap
  sn : Snc env.locals e it s₀ s
structure PO (e it : Addr) (P : Heap → Prop) : Prop where
  own : ∀ h h', P h → OwnK e it h h' → P h'
  lv : ∀ h, P h → ∃ o, h.get? e = some o
noncomputable def outs (all : List V) (env : Env) (e it : Addr) : Protocol := fun m s₀ v s₁ kap =>
  (∃ item l, item :: l <:+ all ∧ l.length = m ∧ VR [] s₁.heap item v) ∧ Snc env.locals e it s₀ s₁ ∧ (∀ a, a = env.locals ∨ a = e → ∃ o, s₁.heap.get? a = some o) ∧ AllBare s₁.gens ∧
    ∀ s'', (∀ o, s₁.heap.get? env.locals = some o → s''.heap.get? env.locals = some o) → OwnK e it s₁.heap s''.heap → Hb s''.heap → AllBare s''.gens → kap (.send .none) s''
noncomputable def fin0 (env : Env) (e it : Addr) : GenEnd := fun n s₀ r s₁ => r = .ok (.ret .none) ∧ n = 0 ∧ Snc env.locals e it s₀ s₁ ∧ AllBare s₁.gens
theorem nil_of {φ : List Addr} (I : SR [] φ s) : φ = [] := List.eq_nil_of_length_eq_zero I.len
theorem Snc.of (C : GV h0 sc env) (I : SR [] [] s) (F : FR env ρ [] s) (t : StB env h0 [] s [] s') : Snc env.locals e it s s' :=
  ⟨fun a o h1 _ _ h => t.keep a o h List.not_mem_nil (.inl fun q => h1 (C.one a q)), t.os, t.gens, t.imm I F⟩
theorem GL.step (C : GC h0 sc env e it) (H : PO e it P) (L : GL env e it P s₀ ρ s) (I' : SR [] [] s') (F' : FR env ρ' [] s') (t : StB env h0 [] s [] s') : GL env e it P s₀ ρ' s' :=
  ⟨I', F', H.own _ _ L.p fun a o h q => t.keep a o q List.not_mem_nil (.inl fun m => h.elim (fun h => C.le (h ▸ C.one a m)) fun h => C.li (h.1 ▸ C.one a m)),
    L.sn.trans (.of C.toGV L.I L.F t)⟩
theorem GL.gt {x : Expr} {m : MT} {b : Bool} {Q : Bool → Shared → Prop} (C : GC h0 sc env e it) (H : PO e it P) (L : GL env e it P s₀ ρ s) (HT : SndT A sc x m) (ex : m ρ [] = some (b, [])) (h : ∀ s', GL env e it P s₀ ρ s' → Q b s') :
    wpAny (model prog w) A (PySem.isTrue x env (eval x env)) Q E s := HT C.W.K L.I L.F ex fun s1 φ1 I1 t1 => by
  cases nil_of I1
  exact h s1 (L.step C H I1 (L.F.stp L.I t1) (.of t1))
theorem GL.ge {Q : Value → Shared → Prop} (C : GC h0 sc env e it) (H : PO e it P) (L : GL env e it P s₀ ρ s) (HE : SndE A sc y m) (ex : m ρ [] = some (v, [])) (h : ∀ z s', VR [] s'.heap v z → GL env e it P s₀ ρ s' → Q z s') :
    wpAny (model prog w) A (eval y env) Q E s := HE C.W.K L.I L.F ex fun z s1 φ1 r1 I1 t1 => by
  cases nil_of I1
  exact h z s1 r1 (L.step C H I1 (L.F.stp L.I t1) (.of t1))
theorem GL.gs {st : Stmt} {m : MS} {Q : Flow → Shared → Prop} (C : GC h0 sc env e it) (H : PO e it P) (L : GL env e it P s₀ ρ s) (HS : SndS A sc st m) (ex : m (ρ, []) = some (.next, ρ', [])) (h : ∀ s', GL env e it P s₀ ρ' s' → Q .next s') :
    wpAny (model prog w) A (exec st env) Q E s := HS.run C.W L.I L.F ex fun f s1 φ1 hf I1 F1 t1 => by
  cases nil_of I1
  cases hf
  exact h s1 (L.step C H I1 F1 t1)
noncomputable def gF (x : List Nat) (p : Int) (b : Bool) (o : Option (List Nat)) : Env1 := [some (.str x), some (.int p), some (.bool b), o.map V.str]
theorem gF_plain {p : Int} {b : Bool} {o : Option (List Nat)} {i : Nat} {v : V} (h : (gF x p b o)[i]? = some (some v)) : (∃ y, v = .str y) ∨ (∃ y, v = .int y) ∨ ∃ y, v = .bool y := by
  match i, h with
  | 0, h => cases h; exact .inl ⟨_, rfl⟩
  | 1, h => cases h; exact .inr (.inl ⟨_, rfl⟩)
  | 2, h => cases h; exact .inr (.inr ⟨_, rfl⟩)
  | 3, h =>
    cases o with
    | none => cases h
    | some z => cases h; exact .inl ⟨_, rfl⟩
  | i + 4, h => cases h
theorem VR.plain {φ : List Addr} {h h' : Heap} {z : Value} (p : (∃ y, v = .str y) ∨ (∃ y, v = .int y) ∨ ∃ y, v = .bool y) (r : VR φ h v z) : VR φ h' v z := by
  rcases p with ⟨y, rfl⟩ | ⟨y, rfl⟩ | ⟨y, rfl⟩
  · obtain ⟨t, rfl⟩ := r.str'; exact .str y t
  · obtain ⟨t, rfl⟩ := r.int'; exact .int y t
  · cases r; exact .bool y
theorem FR.priv {p : Int} {b : Bool} {o : Option (List Nat)} (C : GC h0 sc env e it) (F : FR env (gF x p b o) [] s) (hk : ∀ o, s.heap.get? env.locals = some o → s'.heap.get? env.locals = some o) : FR env (gF x p b o) [] s' := by
  obtain ⟨m, hn, hm⟩ := F.loc
  refine ⟨F.kinds, ⟨m, hn.at' hk, fun i n x h1 h2 => Exists.elim (hm i n x h1 h2) fun y q => ⟨y, q.1, q.2.plain (gF_plain h2)⟩⟩, fun i n k h1 h2 => ?_, F.nl⟩
  obtain ⟨c, v, e1, ⟨o, e2, d2⟩, _⟩ := F.cel i n k h1 h2
  obtain rfl := C.one c (.inr ⟨i, n, k, h1, h2, e1⟩)
  obtain ⟨o', es, ep, e3, d3, _⟩ := hn
  cases e2.symm.trans e3; cases d2.symm.trans d3
theorem GL.live (H : PO e it P) (L : GL env e it P s₀ ρ s) {a : Addr} (h : a = env.locals ∨ a = e) : ∃ o, s.heap.get? a = some o := h.elim (fun h => by
    obtain ⟨m, ⟨o, _, _, e1, _⟩, _⟩ := L.F.loc
    exact ⟨o, h ▸ e1⟩) fun h => h ▸ H.lv _ L.p
theorem yield_seg {p : Int} {b : Bool} {o : Option (List Nat)} {c : Code} {fs : List Frame} {rest : List Stmt} {K : Flow → Sem Fin} {Hx : Value → Sem Fin} {p1 p2 : Pos} (C : GC h0 sc env e it) (H : PO e it P) (L : GL env e it P s₀ (gF x p b o) s) (HE : SndE (A.over c fs) sc y m)
    (ex : m (gF x p b o) [] = some (v, [])) (hl : v :: l <:+ all) (hfs : splitAtGen fs = none) (hfg : fs.any Frame.guarded = false)
    (k : ∀ s'', GL env e it P s'' (gF x p b o) s'' → Seg (model prog w) A (fin0 env e it) (outs all env e it) l.length s'' c ((execs rest env).wrap K Hx id id) fs s'') :
    Seg (model prog w) A (fin0 env e it) (outs all env e it) (l.length + 1) s₀ c ((execs (.Expr (.Yield (some y) p1) p2 :: rest) env).wrap K Hx id id) fs s :=
  seg_execs_cons (seg_Expr_Yield hfs rfl hfg (L.ge C H HE ex fun z s1 r1 L1 kap hkap => ⟨⟨v, l, hl, rfl, r1⟩, L1.sn, fun a h => L1.live H h, L1.I.bare, fun s'' h1 h2 h3 h4 =>
    hkap .none s'' (k s'' ⟨⟨h3, rfl, List.nodup_nil, fun a ha => absurd ha List.not_mem_nil, (fun _ _ e => nomatch e), h4⟩, FR.priv C L1.F h1, H.own _ _ L1.p h2, .refl _ _ _ _⟩)⟩) C.co (by unfold interactive; rw [C.W.K.fn]; rfl))
theorem last_seg {c0 : Code} {b : Bool} {p : Int} {o : Option (List Nat)} (C : GC h0 sc env e it) (H : PO e it P) (S : GS (A.over c0 []) sc g) (hl : (match b with
      | true => [V.tup [.int p, .str [92]]]
      | false => []) <:+ all) (L : GL env e it P s₀ (gF x p b o) s) :
    Seg (model prog w) A (fin0 env e it) (outs all env e it) (match b with
      | true => 1
      | false => 0) s₀ c0 ((execs [lastIf g] env).wrap Kf (Hf env) id id) [] s := by
  refine seg_execs_cons (seg_If (L.gt C H S.t4 (b := b) rfl fun s1 L1 => ?_))
  cases b with
  | false => exact seg_execs_nil (seg_execs_nil (seg_end (.ok (.ret .none)) ⟨rfl, rfl, L1.sn, L1.I.bare⟩))
  | true => exact yield_seg C H L1 S.y5 rfl hl rfl rfl fun s2 L2 => seg_execs_nil (seg_execs_nil (seg_end (.ok (.ret .none)) ⟨rfl, rfl, L2.sn, L2.I.bare⟩))
end
end
section
set_option maxHeartbeats 2000000
open PySem PySem.W PyProof.Rows PySem.Calls
noncomputable def EnP (x : List Nat) (tk : Tok) (e it : Addr) (i : Nat) (h : Heap) : Prop := (∃ old, IsEnum h e it i old) ∧ h.IsStrIter it (strIterType (S x)) (S x) tk i
noncomputable def EnL (e : Addr) (h : Heap) : Prop := ∃ o, h.get? e = some o
section
variable {h0 : Heap} {A : Around} {E : Value → Shared → Prop} {s s' s₀ : Shared} {sc : Scope} {env : Env} {ρ ρ' : Env1} {g : GP} {e it : Addr} {x : List Nat} {tk : Tok} {P : Heap → Prop} {all l : List V} {i : Nat} {c0 : Code} {pp : Pos}
theorem po_en : PO e it (EnP x tk e it i) := ⟨fun h h' p k => ⟨Exists.elim p.1 fun old q => ⟨old, k e _ (.inl rfl) q⟩, by
  obtain ⟨o, e1, c, d⟩ := p.2
  exact ⟨o, k it o (.inr ⟨rfl, si_of c⟩) e1, c, d⟩⟩, fun h p => Exists.elim p.1 fun old q => ⟨_, q⟩⟩
theorem po_el : PO e it (EnL e) := ⟨fun h h' p k => Exists.elim p fun o q => ⟨o, k e o (.inl rfl) q⟩, fun h p => p⟩
theorem draws_str (hh : A.handled = none) : Draws prog w A it [it] (S x).cps.size (fun i v => ∃ c u, (S x).cps[i]? = some c ∧ v = .str ⟨#[c]⟩ u) (fun i h => h.IsStrIter it (strIterType (S x)) (S x) tk i) := by
  unfold strIterType
  cases (S x).cps.all (· < 128)
  · exact Draws.strWide hh it (S x) tk
  · exact Draws.strAscii hh it (S x) tk
theorem GL.own {h' : Heap} {t : Nat} {d : Drawn} {P' : Heap → Prop} (C : GC h0 sc env e it) (L : GL env e it (EnP x tk e it i) s₀ ρ s) (hk : ∀ b o, b ≠ e → b ≠ it → s.heap.get? b = some o → h'.get? b = some o) (hp : P' h') :
    GL env e it P' s₀ ρ ⟨h', s.gens, d, t, s.os⟩ := by
  obtain ⟨⟨old, e1⟩, o2, e2, c2, d2⟩ := L.p
  have g0 : Go0 (fun a => a = e ∨ a = it) s ⟨h', s.gens, d, t, s.os⟩ := ⟨fun a o q n => hk a o (fun h => n (.inl h)) (fun h => n (.inr h)) q, rfl, fun _ _ e => e⟩
  have im : ImmK s.heap h' := g0.imm fun a q => by
    rcases q with rfl | rfl
    · exact ⟨_, e1, notImm rfl rfl⟩
    · exact ⟨_, e2, (si_of c2).imm⟩
  refine ⟨L.I.step0 g0 (fun a q => ⟨List.not_mem_nil, q.elim (fun q => q ▸ C.W.H.none C.he) fun q => q ▸ C.W.H.none C.hi⟩) im L.I.bare, L.F.go0 g0 (.refl []) im (fun a h => .inl h) (fun q => q.elim (fun q => C.le q.symm) fun q => C.li q.symm) (fun c v hc q => ?_), hp,
    L.sn.trans ⟨fun a o _ h2 h3 q => hk a o h2 (fun h => h3 ⟨h, by subst h; cases e2.symm.trans q; exact si_of c2⟩) q, rfl, fun _ _ e => e, im⟩⟩
  obtain ⟨o, e3, d3⟩ := hc
  rcases q with rfl | rfl
  · cases e1.symm.trans e3; cases d3
  · cases e2.symm.trans e3; cases d2.symm.trans d3
noncomputable abbrev GSeg (A : Around) (all : List V) (env : Env) (e it : Addr) (n : Nat) (s₀ : Shared) (c : Code) (t : Sem Fin) (fs : List Frame) (s : Shared) : Prop := Seg (model prog w) A (fin0 env e it) (outs all env e it) n s₀ c t fs s
theorem escT (i c : Nat) (r : List Nat) : escGo i true (c :: r) = .tup [.int i, .str [92, c]] :: escGo (i + 1) false r := rfl
theorem escB (i : Nat) (r : List Nat) : escGo i false (92 :: r) = escGo (i + 1) true r := rfl
theorem escC {i c : Nat} {r : List Nat} (h : c ≠ 92) : escGo i false (c :: r) = .tup [.int i, .str [c]] :: escGo (i + 1) false r := by
  show (if c = 92 then _ else _) = _
  rw [if_neg h]
theorem suf_tl {a : V} (h : a :: l <:+ all) : l <:+ all := (List.suffix_cons a l).trans h
theorem body_seg {K : Flow → Sem Fin} {Hx : Value → Sem Fin} {c r : List Nat} {b : Bool} {c₁ : Code} {fs : List Frame} {ch : Nat} {rest : List Nat} (C : GC h0 sc env e it) (H : PO e it P) (S1 : GS (A.over c₁ fs) sc g) (hfs : splitAtGen fs = none) (hfg : fs.any Frame.guarded = false)
    (hl : escGo i b (ch :: rest) <:+ all) (L : GL env e it P s₀ (gF x i b (some [ch])) s)
    (again : ∀ (b' : Bool) (s₁ s₂ : Shared), (b' = true → ch = 92) → escGo (i + 1) b' rest <:+ all → GL env e it P s₁ (gF x i b' (some [ch])) s₂ → GSeg A all env e it (escGo (i + 1) b' rest).length s₁ c₁ (K .next) fs s₂) :
    GSeg A all env e it (escGo i b (ch :: rest)).length s₀ c₁ ((execs (bodyIn g) env).wrap K Hx id id) fs s := by
  refine seg_execs_cons (seg_If (L.gt C H S1.t0 (b := b) rfl fun s1 L1 => ?_))
  cases b with
  | true =>
    rw [if_pos rfl]
    rw [escT] at hl ⊢
    exact yield_seg C H L1 S1.y1 rfl hl hfs hfg fun s2 L2 => seg_execs_cons (seg_plain (L2.gs C H S1.s0 rfl fun s3 L3 => seg_execs_nil (seg_execs_nil (again false _ s3 (fun q => nomatch q) (suf_tl hl) L3))))
  | false =>
    rw [if_neg (by decide)]
    refine seg_execs_cons (seg_If (L1.gt C H S1.t2 (b := [ch] == [92]) rfl fun s2 L2 => ?_))
    by_cases h : ch = 92
    · subst h
      rw [if_pos (by decide)]
      rw [escB] at hl ⊢
      exact seg_execs_cons (seg_plain (L2.gs C H S1.s1 rfl fun s3 L3 => seg_execs_nil (seg_execs_nil (seg_execs_nil (again true _ s3 (fun _ => rfl) hl L3)))))
    · rw [if_neg (fun q => h (List.cons.inj (beq_iff_eq.mp q)).1)]
      rw [escC h] at hl ⊢
      exact yield_seg C H L2 S1.y3 rfl hl hfs hfg fun s3 L3 => seg_execs_nil (seg_execs_nil (seg_execs_nil (again false _ s3 (fun q => nomatch q) (suf_tl hl) L3)))
theorem cps_at {i c : Nat} {r : List Nat} (h : x.drop i = c :: r) : x[i]? = some c ∧ x.drop (i + 1) = r := by
  refine ⟨?_, ?_⟩
  · rw [← Nat.add_zero i, ← List.getElem?_drop, h]; rfl
  · rw [← List.drop_drop, h]; rfl
theorem loop_seg (C : GC h0 sc env e it) (S0 : GS (A.over c0 []) sc g) (S1 : GS (A.over (c1 g env e) (fs1 g env c0 pp)) sc g) (r : List Nat) : ∀ {i : Nat} {p : Int} {b : Bool} {o : Option (List Nat)} {s s₀ : Shared}, x.drop i = r → i ≤ x.length → (b = true → p = (i : Int) - 1) → escGo i b r <:+ all →
    GL env e it (EnP x tk e it i) s₀ (gF x p b o) s → GSeg A all env e it (escGo i b r).length s₀ (c1 g env e) ((model prog w).den (c1 g env e)) (fs1 g env c0 pp) s := by
  induction r with
  | nil =>
    intro i p b o s s₀ hx hi hp hl L
    obtain ⟨⟨old, he⟩, hs⟩ := L.p
    have hn : i = x.length := Nat.le_antisymm hi (List.drop_eq_nil_iff.mp hx)
    refine seg_forLoop (wpAny_pyNext_enum_endD (draws_str (x := x) (tk := tk) S1.hh) he (by subst hn; exact hs) fun h' hk => seg_block_nil (K' := ()) (seg_leaf (.ok .next) ?_))
    have L2 : GL env e it (EnL e) s₀ (gF x p b o) { s with heap := h' } := L.own C (fun b o _ h => hk b o h) ⟨_, hk _ _ C.ne he⟩
    cases b with
    | false => exact last_seg (b := false) C po_el S0 hl L2
    | true => exact last_seg (b := true) C po_el S0 (by rw [hp rfl]; exact hl) L2
  | cons c r ih =>
    intro i p b o s s₀ hx hi hp hl L
    obtain ⟨⟨old, he⟩, hs⟩ := L.p
    obtain ⟨hc, hx'⟩ := cps_at hx
    have hlt := lt_of_get hc
    have hne : s.heap.objs.size ≠ e := fun q => absurd (Heap.lt_size he) (by rw [← q]; exact Nat.lt_irrefl _)
    refine seg_forLoop (wpAny_pyNext_enum_itemD (draws_str (x := x) (tk := tk) S1.hh) he hs hlt C.ne (fun q => C.ne (List.mem_singleton.mp q)) fun y h1 tk1 hP hout hst hT hz hk1 => ?_)
    obtain ⟨c', u, hc', rfl⟩ := hP
    cases hc.symm.trans (List.getElem?_toArray.symm.trans hc')
    refine wpAny_letOwnedTupleGo_enum hout fun h2 he2 hs2 => ?_
    have L2 : GL env e it (EnP x tk e it (i + 1)) s₀ (gF x p b o) { s with heap := h2, toks := tk1 + 1 } := L.own C (fun b o h3 h4 q => (hs2.2 b h3).trans (hk1 b o h3 h4 q)) ⟨⟨_, he2⟩, by
      obtain ⟨o, e1, q⟩ := hst
      exact ⟨o, (hs2.2 it fun q => C.ne q.symm).trans e1, q⟩⟩
    refine S1.tg.run C.W L2.I L2.F (v := .tup [.int i, .str [c]]) (ρ' := gF x i b (some [c])) rfl (.tup (xs := [.int i tk1, .str (S [c]) u]) ((hs2.2 _ hne).trans hT) (.cons (.int _ _) (.cons (.str [c] u) .nil))) fun s3 I3 F3 t3 => ?_
    exact body_seg (r := r) (c := []) C po_en S1 rfl rfl hl (L2.step C po_en I3 F3 t3) fun b' s₁ s₂ hb h4 L4 => seg_again rfl (ih hx' hlt (fun _ => by rw [Int.natCast_succ, Int.add_sub_cancel]) h4 L4)
end
end
section
set_option maxHeartbeats 2000000
open PySem PySem.W PyProof.Rows PySem.Calls
set_option genSizeOf false
structure GenOK (fd : FuncData) (fa : Addr) (g : GP) : Prop where
  mga : mg genN = some (.ref fa)
  ob : ∃ o, hb.get? fa = some o ∧ o.data = .func fd
  lim : hb.NoLimit
  cd : hb.CodeRec fd.code fd.qualname
  clo : fd.closure = []
  glob : fd.globals = mainGlobals
  blt : fd.builtins = builtinsNs
  co : fd.scope.isCoroutine = false
  gen : fd.scope.isGenerator = true
  wf : FWF fd.scope 4
  loc : ∀ x ∈ fd.scope.names, x.2 = .local ∨ x.2 = .globalImplicit
  body : fd.body = .stmts (genBody g)
  bind : ∀ v : Value, bindArgs fd ⟨[v], []⟩ = pure (bindsOf fd.scope [v])
  nms : ∀ i, i < 4 → At fd.scope i (g.nm i)
  gs : ∀ A, RoomA A 0 → GS A fd.scope g ∧ ∀ {env : Env} {h0 : Heap} {s : Shared} {p : Pos} {Q E : Value → Shared → Prop}, EnvOK fd.scope env h0 → SR [] [] s → Q (.type "enumerate") s → wpAny (model prog w) A (eval (.Name "enumerate" p) env) Q E s
section
variable {h0 : Heap} {A : Around} {E : Value → Shared → Prop} {s s' s₀ : Shared} {sc : Scope} {env : Env} {ρ ρ' : Env1} {g : GP} {e it : Addr} {x : List Nat} {i : Nat} {v : V} {fd : FuncData} {fa : Addr} 
theorem put_const {n : PySem.Str} {k : Const} {p1 p2 p3 : Pos} {Q : Flow → Shared → Prop} (W : Frm sc env h0) (a : At sc i n) (e : setL ρ i v = some ρ') (I : SR [] [] s) (F : FR env ρ [] s)
    (hv : ∀ (P E : Value → Shared → Prop), (∀ y k, VR [] s.heap v y → P y { s with toks := k }) → wpAny (model prog w) A (eval (.Constant k 0 p2) env) P E s)
    (h : ∀ s', SR [] [] s' → FR env ρ' [] s' → StB env h0 [] s [] s' → s'.heap.objs.size = s.heap.objs.size → Q .next s') : wpAny (model prog w) A (exec (.Assign [.Name n p1] (.Constant k 0 p2) p3) env) Q E s :=
  wpAny_Assign_Name (hv _ _ fun y k r => store_snd W.K (W.O i) W.H (I.toks k) (F.stp I (.nw (nw_toks s k _))) a e r fun s' I' F' g im hz => h s' I' F' ((StB.of (.nw (nw_toks s k _))).trans (.store g)) hz) (swaps_no rfl)
theorem no_at {h : Heap} {a : Addr} (l : h.objs.size ≤ a) : h.get? a = none := no_obj fun _ q => absurd (Heap.lt_size q) (Nat.not_lt.mpr l)
theorem start_seg (D : GenOK fd fa g) (C : GV h0 fd.scope env) (R0 : RoomA (A.over (.func (genBody g) env) []) 0) (R1 : ∀ e p, RoomA (A.over (c1 g env e) (fs1 g env (.func (genBody g) env) p)) 0)
    (I : SR [] [] s) (F : FR env [some (.str x), none, none, none] [] s) (h0s : ∀ a o, h0.get? a = some o → s.heap.get? a = some o) :
    GSeg A (escGo 0 false x) env (s.heap.objs.size + 1) s.heap.objs.size (escGo 0 false x).length s (.func (genBody g) env) ((model prog w).den (.func (genBody g) env)) [] s := by
  obtain ⟨S0, N0⟩ := D.gs _ R0
  have hl : env.locals < s.heap.objs.size := by obtain ⟨m, ⟨o, _, _, e1, _⟩, _⟩ := F.loc; exact Heap.lt_size e1
  have n0 : ∀ a, s.heap.objs.size ≤ a → h0.get? a = none := fun a ha => no_obj fun o q => none_some (no_at ha) (h0s a o q)
  have C2 : GC h0 fd.scope env (s.heap.objs.size + 1) s.heap.objs.size := ⟨C, Nat.succ_ne_self _, n0 _ (Nat.le_succ _), n0 _ (Nat.le_refl _), Nat.ne_of_gt (Nat.lt_succ_of_lt hl), Nat.ne_of_gt hl⟩
  refine seg_func (seg_execs_cons (seg_plain ?_))
  refine put_const (v := .int 0) C.W (D.nms 1 (by decide)) rfl I F (fun P E h => wpAny_Constant_int (h _ _ (.int 0 _))) fun s1 I1 F1 t1 z1 => ?_
  refine seg_execs_cons (seg_plain ?_)
  refine put_const (v := .bool false) C.W (D.nms 2 (by decide)) rfl I1 F1 (fun P E h => wpAny_Constant_bool (h _ s1.toks (.bool false))) fun s2 I2 F2 t2 z2 => ?_
  refine seg_execs_cons (seg_For (fun x => rfl) ?_)
  refine wpAny_Call_NameR (N0 C.W.K I2 (PyProof.Rows.callWith_type1 (T := "enumerate") (args_cons (load_snd C.W.K F2 (D.nms 0 (by decide)) (v := .str x) rfl fun y r3 => args_nil ?_) rfl) rfl rfl))
  obtain ⟨t, rfl⟩ := r3.str'
  refine call_enumerate_str fun h' he hit hsz hk => ?_
  rw [z2, z1] at he hit
  rw [z2, z1]
  have g3 : Nw s2 { s2 with heap := h' } := nw_keep hk
  refine wpAny_pyIter_enum he fun p => ?_
  exact loop_seg (x := x) (tk := t) (b := false) (o := none) C2 S0 (D.gs _ (R1 _ p)).1 x rfl (Nat.zero_le _) (fun q => nomatch q) (List.suffix_refl _) ⟨I2.nw' g3 I2.bare, F2.stp I2 (.nw g3), ⟨⟨_, he⟩, hit⟩, ((Snc.of C I F t1).trans (Snc.of C I1 F1 t2)).trans (Snc.of C I2 F2 (.of (.nw g3)))⟩
end
end
section
set_option maxHeartbeats 2000000
set_option backward.match.sparseCases false
open PySem PySem.W PyProof.Rows PySem.Calls
set_option genSizeOf false
section
variable {h0 : Heap} {A : Around} {E : Value → Shared → Prop} {s s' s₀ s1 : Shared} {env genv : Env} {ρ ρ' ρ1 : Env1} {g : GP} {e it : Addr} {x : List Nat} {σ σ' : St} {φ φ' φ1 : List Addr} {all rem : List V} {ga : Addr} {gn : Nat} {fr : Bool} {gs : GenState} {d : Nat} {o : O} {a : Addr}
theorem bare_set {i : Nat} {gs : GenState} (b : AllBare s.gens) (h : gs.bare = true) : AllBare (s.setGen i gs).gens := fun y hy => by
  obtain ⟨j, hj, e⟩ := Array.mem_iff_getElem.mp (show y ∈ s.gens.setIfInBounds i gs from hy)
  rw [Array.getElem_setIfInBounds (by simpa using hj)] at e
  split at e
  · exact e ▸ h
  · exact e ▸ b _ (Array.getElem_mem _)
theorem gens_set {i j : Nat} {y z : GenState} (h : s.gens[j]? = some y) : (s.setGen i z).gens[j]? = if i = j then some z else some y := by
  show (s.gens.setIfInBounds i z)[j]? = _
  rw [Array.getElem?_setIfInBounds]
  by_cases q : i = j
  · subst q
    rw [if_pos rfl, if_pos rfl, if_pos (Array.getElem?_eq_some_iff.mp h).1]
  · rw [if_neg q, if_neg q, h]
theorem room_gen (R : RoomA A d) (hd : 2 ≤ d) : RoomA (A.in1.over (.func (genBody g) genv) []) 0 ∧ ∀ e p, RoomA (A.in1.over (c1 g genv e) (fs1 g genv (.func (genBody g) genv) p)) 0 := by
  have h1 := R.dep
  have h2 := R.un
  refine ⟨⟨R.hh, ?_, ?_⟩, fun e p => ⟨R.hh, ?_, ?_⟩⟩
  · show A.depth + 0 + 1 + 0 < _
    omega
  · show A.units + 1 + 0 + 3 + 0 + 110 < _
    omega
  · show A.depth + (1 + 0) + 0 + 0 < _
    omega
  · show A.units + 1 + (3 + 0) + 0 + 0 + 110 < _
    omega
theorem FR.keepM (F : FR env ρ φ s) (im : ImmK s.heap s'.heap) (km : ∀ a o, Mine1 env a → s.heap.get? a = some o → s'.heap.get? a = some o) : FR env ρ φ s' := by
  obtain ⟨m, hm, hv⟩ := F.loc
  refine ⟨F.kinds, ⟨m, hm.at' fun o h => km _ o (.inl rfl) h, fun i n y h1 h2 => Exists.elim (hv i n y h1 h2) fun z q => ⟨z, q.1, q.2.mono (.refl φ) im⟩⟩, fun i n k h1 h2 => ?_, F.nl⟩
  obtain ⟨c, v, e1, ⟨o, e2, d2⟩, r1⟩ := F.cel i n k h1 h2
  exact ⟨c, v, e1, ⟨o, km c o (.inr ⟨i, n, k, h1, h2, e1⟩) e2, d2⟩, fun y hy => Exists.elim (r1 y hy) fun z q => ⟨z, q.1, q.2.mono (.refl φ) im⟩⟩
theorem OR.notSI {h : Heap} {ob : Obj} (r : OR φ h o a) (e : h.get? a = some ob) (q : SI ob) : False := by
  obtain ⟨ob', T, e', c, hT, _⟩ := r.there
  cases e.symm.trans e'
  rcases q with q | q <;> (rw [c] at q; cases q; exact absurd hT (by decide))
structure LS (env : Env) (h0 : Heap) (φ1 : List Addr) (s1 : Shared) (ρ : Env1) (σ : St) (φ : List Addr) (s : Shared) : Prop where
  I : SR σ φ s
  t : StB env h0 φ1 s1 φ s
  F : FR env ρ φ s
noncomputable def Gch (s1 : Shared) (φ : List Addr) (ga a : Addr) : Prop := s1.heap.get? a = none ∧ a ∉ φ ∧ a ≠ ga
theorem mine_old (F : FR env ρ φ s) (h : Mine1 env a) : ∃ o, s.heap.get? a = some o := Exists.elim (F.mine h) fun o q => ⟨o, q.1⟩
theorem LS.go (H : Hb s1.heap) (F1 : FR env ρ1 φ1 s1) (L : LS env h0 φ1 s1 ρ σ φ s) (hk : ∀ a o, s.heap.get? a = some o → ¬ Gch s1 φ ga a → s'.heap.get? a = some o) (os : s'.os = s.os)
    (hg : ∀ (i : Nat) (y : GenState), s1.gens[i]? = some y → s'.gens[i]? = some y) (im : ImmK s.heap s'.heap) (b : AllBare s'.gens) : LS env h0 φ1 s1 ρ σ φ s' := by
  refine ⟨⟨fun a o h => hk a o (L.I.keep a o h) fun q => none_some q.1 (H a o h), L.I.len, L.I.nd, L.I.fresh, fun k o h => ?_, b⟩, ⟨L.t.ext, fun a o h1 h2 h3 => hk a o (L.t.keep a o h1 h2 h3) fun q => none_some q.1 h1, fun a o h1 => ?_, os.trans L.t.os, hg⟩,
    L.F.keepM im fun a o h e => hk a o e fun q => Exists.elim (mine_old F1 h) fun _ e => none_some q.1 e⟩
  · obtain ⟨a, ea, r⟩ := L.I.objs k o h
    exact ⟨a, ea, r.mono (.refl φ) im fun ob eo => hk a ob eo fun q => q.2.1 (List.mem_of_getElem? ea)⟩
  · obtain ⟨o', h2⟩ := L.t.live a o h1
    exact ⟨o', hk a o' h2 fun q => none_some q.1 h1⟩
noncomputable def RdG (A : Around) (genv : Env) (all : List V) (s1 : Shared) (φ : List Addr) (ga : Addr) (n : Nat) (gs : GenState) (s : Shared) : Prop := ∃ e it : Addr, (∀ a, a = genv.locals ∨ a = e → Gch s1 φ ga a) ∧ s1.heap.get? it = none ∧
  gs.Goes (model prog w) A.in1 (fin0 genv e it) (outs all genv e it) n (.send .none) s
noncomputable def Sus (A : Around) (genv : Env) (all : List V) (s1 : Shared) (φ : List Addr) (ga : Addr) (n : Nat) (gs : GenState) (s : Shared) : Prop := ∃ e it : Addr, ∃ sy : Shared, (∀ a, a = genv.locals ∨ a = e → Gch s1 φ ga a ∧ ∃ o, sy.heap.get? a = some o) ∧ s1.heap.get? it = none ∧
  (∀ a o, (a = genv.locals ∨ a = e ∨ (a = it ∧ SI o)) → sy.heap.get? a = some o → s.heap.get? a = some o ∧ a ∉ φ) ∧
    ∀ s'', (∀ o, sy.heap.get? genv.locals = some o → s''.heap.get? genv.locals = some o) → OwnK e it sy.heap s''.heap → Hb s''.heap → AllBare s''.gens →
      gs.Goes (model prog w) A.in1 (fin0 genv e it) (outs all genv e it) n (.send .none) s''
structure EL (A : Around) (h0 : Heap) (env genv : Env) (all : List V) (fr : Bool) (s1 : Shared) (φ1 : List Addr) (ga : Addr) (gn : Nat) (rem : List V) (ρ : Env1) (σ : St) (φ : List Addr) (s : Shared) : Prop where
  L : LS env h0 φ1 s1 ρ σ φ s
  ge : s.heap.IsGen ga gn
  na : ga ∉ φ
  nw : s1.heap.get? ga = none
  ng : s1.gens[gn]? = none
  st : ∃ gs, s.gens[gn]? = some gs ∧ gs.bare = true ∧ ((fr = true ∧ RdG A genv all s1 φ ga rem.length gs (s.setGen gn .running)) ∨ Sus A genv all s1 φ ga rem.length gs s)
  dr : rem <:+ all
theorem EL.step (F1 : FR env ρ1 φ1 s1) (X : EL A h0 env genv all false s1 φ1 ga gn rem ρ σ φ s) (I' : SR σ' φ' s') (F' : FR env ρ' φ' s') (t : StB env h0 φ s φ' s') : EL A h0 env genv all false s1 φ1 ga gn rem ρ' σ' φ' s' := by
  have nm : ∀ {a}, s1.heap.get? a = none → ¬ Mine1 env a := fun h q => Exists.elim (mine_old F1 q) fun _ e => none_some h e
  obtain ⟨gs, h1, h2, hr⟩ := X.st
  obtain ⟨o, n1, n2, eo, r⟩ := X.ge
  refine ⟨⟨I', X.L.t.trans t, F'⟩, ⟨o, n1, n2, t.keep _ _ eo X.na (.inl (nm X.nw)), r⟩, t.ext.notin X.na eo, X.nw, X.ng, ⟨gs, t.gens _ _ h1, h2, .inr ?_⟩, X.dr⟩
  rcases hr with ⟨q, _⟩ | ⟨e, it, sy, h3, h4, h5, h6⟩
  · cases q
  · have kp : ∀ a o, (a = genv.locals ∨ a = e ∨ (a = it ∧ SI o)) → sy.heap.get? a = some o → s'.heap.get? a = some o ∧ a ∉ φ' := fun a o q ha => by
      obtain ⟨p1, p2⟩ := h5 a o q ha
      exact ⟨t.keep a o p1 p2 (.inl (nm (q.elim (fun q => (h3 a (.inl q)).1.1) fun q => q.elim (fun q => (h3 a (.inr q)).1.1) fun q => q.1 ▸ h4))), t.ext.notin p2 p1⟩
    refine ⟨e, it, sy, fun a q => ?_, h4, kp, h6⟩
    obtain ⟨⟨q1, q2, q3⟩, o, q4⟩ := h3 a q
    exact ⟨⟨q1, (kp a o (q.imp id .inl) q4).2, q3⟩, o, q4⟩
theorem Sus.rd (I : SR σ φ s) (h : Sus A genv all s1 φ ga rem.length gs s) : RdG A genv all s1 φ ga rem.length gs (s.setGen gn .running) := by
  obtain ⟨e, it, sy, h3, h4, h5, h6⟩ := h
  exact ⟨e, it, fun a q => (h3 a q).1, h4, h6 _ (fun o q => (h5 _ o (.inl rfl) q).1) (fun a o q p => (h5 a o (.inr q) p).1) I.keep (bare_set I.bare rfl)⟩
end
end
section
set_option maxHeartbeats 2000000
set_option backward.match.sparseCases false
open PySem PySem.W PyProof.Rows PySem.Calls
section
variable {h0 : Heap} {A : Around} {E : Value → Shared → Prop} {s s' s₀ s1 : Shared} {env genv : Env} {ρ ρ' ρ1 : Env1} {g : GP} {e it : Addr} {x : List Nat} {σ σ' : St} {φ φ' φ1 : List Addr} {all rem : List V} {ga : Addr} {gn : Nat} {fr : Bool} {gs : GenState} {d : Nat} {o : O} {a : Addr}
theorem suf_eq {l l' : List V} (h : l <:+ all) (h' : l' <:+ all) (e : l.length = l'.length) : l = l' := by
  obtain ⟨p, rfl⟩ := h
  obtain ⟨q, hq⟩ := h'
  exact (List.append_inj' hq e.symm).2.symm
theorem EL.back {s₁ s₂ : Shared} {y : GenState} (H : Hb s1.heap) (F1 : FR env ρ1 φ1 s1) (X : EL A h0 env genv all fr s1 φ1 ga gn rem ρ σ φ s) (hL : ∀ a, a = genv.locals ∨ a = e → Gch s1 φ ga a) (hi : s1.heap.get? it = none) (hgs : s.gens[gn]? = some gs)
    (hy : y.bare = true) (S : Snc genv.locals e it (s.setGen gn .running) s₁) (hb1 : AllBare s₁.gens) (hk : ∀ a o, s₁.heap.get? a = some o → s₂.heap.get? a = some o) (ho : s₂.os = s₁.os) (hgn : s₂.gens = (s₁.setGen gn y).gens) :
    LS env h0 φ1 s1 ρ σ φ s₂ ∧ s₂.heap.IsGen ga gn ∧ s₂.gens[gn]? = some y := by
  have hg1 : s₁.gens[gn]? = some .running := S.gens gn .running (by rw [gens_set hgs, if_pos rfl])
  obtain ⟨og, n1, n2, eo, c, r⟩ := X.ge
  have hga : ¬ SI og := fun q => by rcases q with q | q <;> exact absurd (Value.type.inj (c.symm.trans q)) (by decide)
  refine ⟨X.L.go (ga := ga) H F1 (fun a o h n => hk a o (S.keep a o (fun q => n (hL a (.inl q))) (fun q => n (hL a (.inr q))) (fun q => n ⟨q.1 ▸ hi, fun ha => ?_, fun e => ?_⟩) h)) (ho.trans S.os) (fun i z h1 => ?_) (fun a o e1 i => hk _ _ (S.imm a o e1 i)) (hgn ▸ bare_set hb1 hy),
    ⟨og, n1, n2, hk _ _ (S.keep _ _ (fun q => (hL _ (.inl q)).2.2 rfl) (fun q => (hL _ (.inr q)).2.2 rfl) (fun q => hga q.2) eo), c, r⟩, by rw [hgn, gens_set hg1, if_pos rfl]⟩
  · obtain ⟨k, hk⟩ := List.mem_iff_getElem?.mp ha
    obtain ⟨o', _, r⟩ := X.L.I.lookup hk
    exact r.notSI h q.2
  · subst e
    cases eo.symm.trans h
    exact hga q.2
  · have hne : gn ≠ i := fun q => by subst q; exact none_some X.ng h1
    have h2 := S.gens i z (by rw [gens_set (X.L.t.gens i z h1), if_neg hne])
    rw [hgn, gens_set h2, if_neg hne]
theorem EL.next {Q : Option Value → Shared → Prop} (H : Hb s1.heap) (hlim : hb.NoLimit) (R : RoomA A d) (hd : 2 ≤ d) (F1 : FR env ρ1 φ1 s1) (X : EL A h0 env genv all fr s1 φ1 ga gn rem ρ σ φ s)
    (h : match rem with
      | [] => ∀ s', LS env h0 φ1 s1 ρ σ φ s' → Q none s'
      | item :: rem' => ∀ y s', VR φ s'.heap item y → EL A h0 env genv all false s1 φ1 ga gn rem' ρ σ φ s' → Q (some y) s') :
    wpAny (model prog w) A (pyNext (.ref ga)) Q E s := by
  obtain ⟨gs, hgs, hbare, hr⟩ := X.st
  obtain ⟨e, it, hL, hi, hgo⟩ := hr.elim (fun q => q.2) (Sus.rd X.L.I)
  refine pyNext_genQ (n := rem.length) R.hh (hlim.keeps X.L.I.keep) (Nat.lt_of_le_of_lt (Nat.le_add_right _ _) R.dep) X.ge hgs hgo (fun v s₁ gs' hb' hY => ?_) fun s₁ hP h' hk => ?_
  · obtain ⟨⟨item, l, hl, hlen, rv⟩, S, hlv, hb1, kap⟩ := hY
    obtain ⟨L2, g2, hg2⟩ := X.back H F1 hL hi hgs hb' S hb1 (s₂ := s₁.setGen gn gs') (fun a o h => h) rfl rfl
    have keepB := L2.I.keep
    cases rem with
    | nil => exact (kap s₁ (fun _ h => h) (fun _ _ _ h => h) keepB hb1).elim
    | cons it0 rem' =>
      obtain ⟨rfl, rfl⟩ := List.cons.inj (suf_eq hl X.dr (congrArg Nat.succ hlen))
      refine h v _ (rv.mono (fun (k : Nat) (a : Addr) (q : ([] : List Addr)[k]? = some a) => nomatch q) (fun _ _ q _ => q)) ⟨L2, g2, X.na, X.nw, X.ng, ⟨gs', hg2, hb', .inr ⟨e, it, s₁, fun a q => ⟨hL a q, hlv a q⟩, hi, fun a o q ho => ⟨ho, fun ha => ?_⟩, kap⟩⟩, suf_tl hl⟩
      rcases q with q | q | ⟨_, q⟩
      · exact (hL a (.inl q)).2.1 ha
      · exact (hL a (.inr q)).2.1 ha
      · obtain ⟨k, hk⟩ := List.mem_iff_getElem?.mp ha
        obtain ⟨o', _, r⟩ := L2.I.lookup hk
        exact r.notSI ho q
  · obtain ⟨hn, S, hb1⟩ := hP
    cases rem with
    | cons it0 rem' => cases hn
    | nil =>
      obtain ⟨L2, _, _⟩ := X.back H F1 hL hi hgs (y := .finished) rfl S hb1 (s₂ := { s₁.setGen gn .finished with heap := h' }) hk rfl rfl
      exact h _ L2
end
end
section
set_option maxHeartbeats 2000000
set_option backward.match.sparseCases false
open PySem PySem.W PyProof.Rows PySem.Calls
section
variable {h0 : Heap} {A : Around} {E : Value → Shared → Prop} {s s' s₀ s1 s2 s3 : Shared} {env genv : Env} {ρ ρ' ρ1 : Env1} {g : GP} {e it : Addr} {x : List Nat} {σ σ' : St} {φ φ' φ1 : List Addr} {all rem : List V} {ga : Addr} {gn : Nat} {fr : Bool} {gs : GenState} {d : Nat} {o : O} {a : Addr} {fd : FuncData} {fa : Addr} {sc : Scope} {fl : Fl} {ss : List Stmt} {ms : MS} {t : Expr} {bd : V → Env1 → Option Env1}
theorem gen_ni (h : s.heap.IsGen ga gn) : NI s.heap ga := by
  obtain ⟨o, nm, qn, e, c, dd, _⟩ := h
  exact ⟨o, _, e, dd, _, c, by decide⟩
theorem esc_loop {R' : Result → Shared → Prop} {k : Nat} (W : Frm sc env h0) (H : Hb s1.heap) (hlim : hb.NoLimit) (R : RoomA A d) (hd : 2 ≤ d) (F1 : FR env ρ1 φ1 s1) (T : TgS A sc t bd) (Hb' : SndSs A sc ss ms)
    (ef : fo bd ms sNil k (.vs rem) (ρ, σ) = some (fl, ρ', σ')) (X : EL A h0 env genv all fr s1 φ1 ga gn rem ρ σ φ s) (h : PF env h0 φ1 s1 fl ρ' σ' fun f s => R' (.ok f) s) : codeAny (model prog w) A (.forLoop t (.ref ga) ss [] env) R' s := by
  refine codeAny_forLoop_any (fun k s' => ∃ fr rem ρ2 σ2 φ2, fo bd ms sNil k (.vs rem) (ρ2, σ2) = some (fl, ρ', σ') ∧ EL A h0 env genv all fr s1 φ1 ga gn rem ρ2 σ2 φ2 s') ?_ k ⟨fr, rem, ρ, σ, φ, ef, X⟩
  clear ef X
  rintro k s2 ⟨fr, rem, ρ2, σ2, φ2, ef, X⟩
  cases k with
  | zero => cases ef
  | succ k =>
    refine X.next H hlim R hd F1 ?_
    cases rem with
    | nil =>
      cases ef
      exact fun s4 L4 => wpAny_execs_nil (h _ s4 φ2 .next L4.I L4.F L4.t)
    | cons item rem' =>
      intro y s3 ry X3
      refine T.own (gen_ni X3.ge) ?_
      unfold fo at ef
      dsimp only [nextIt] at ef
      cases e4 : bd item ρ2 with
      | none => rw [e4] at ef; cases ef
      | some ρ3 =>
        rw [e4] at ef
        refine T.run W X3.L.I X3.L.F e4 ry fun s4 I4 F4 t4 => ?_
        have X4 := X3.step F1 I4 F4 t4
        dsimp only at ef
        cases e5 : ms (ρ3, σ2) with
        | none => rw [e5] at ef; cases ef
        | some q =>
          obtain ⟨f1, ρ5, σ5⟩ := q
          rw [e5] at ef
          refine Hb'.run W I4 F4 e5 fun f s5 φ5 hf I5 F5 t5 => ?_
          have X5 := X4.step F1 I5 F5 t5
          cases hf with
          | next => exact ⟨k, Nat.lt_succ_self _, false, rem', ρ5, σ5, φ5, ef, X5⟩
          | brk => cases ef; exact (h.after X5.L.t).done .next I5 F5
          | ret r => cases ef; exact (h.after X5.L.t).done (.ret r) I5 F5
theorem el_first (D : GenOK fd fa g) (R : RoomA A d) (hd : 2 ≤ d) (I1 : SR σ φ1 s1) (F1 : FR env ρ φ1 s1) (V : GV s1.heap fd.scope genv) (GF : FR genv [some (.str x), none, none, none] [] s3) (hL : s1.heap.get? genv.locals = none) (g3 : Nw s1 s3) (b3 : AllBare s3.gens)
    (hge : s3.heap.IsGen ga gn) (hga : s1.heap.get? ga = none) (hgn : s1.gens[gn]? = none) (hgt : s3.gens[gn]? = some (.fresh (.func (genBody g) genv))) : EL A h0 env genv (escGo 0 false x) true s1 φ1 ga gn (escGo 0 false x) ρ σ φ1 s3 := by
  have new1 : ∀ {a}, s3.heap.objs.size ≤ a → s1.heap.get? a = none := fun ha => no_obj fun o q => none_some (no_at ha) (g3.keep _ o q id)
  refine ⟨⟨I1.nw' g3 b3, .of (.nw g3), F1.stp I1 (.nw g3)⟩, hge, I1.new hga, hga, hgn, ⟨_, hgt, rfl, .inl ⟨rfl, s3.heap.objs.size + 1, s3.heap.objs.size, fun a q => ?_, new1 (Nat.le_refl _), rfl,
    start_seg (s := s3.setGen gn .running) D V (room_gen R hd).1 (room_gen R hd).2 ⟨fun a o h => g3.keep a o (I1.keep a o h) id, rfl, List.nodup_nil, fun a ha => absurd ha List.not_mem_nil, (fun _ _ e => nomatch e), bare_set b3 rfl⟩ ⟨GF.kinds, GF.loc, GF.cel, GF.nl⟩ fun a o h => g3.keep a o h id⟩⟩, List.suffix_refl _⟩
  obtain ⟨og, n1, n2, eo, c, dd, _⟩ := hge
  rcases q with rfl | rfl
  · refine ⟨hL, I1.new hL, fun q => ?_⟩
    obtain ⟨m, ⟨o, es, ep, e1, d1, _⟩, _⟩ := GF.loc
    cases (q ▸ e1).symm.trans eo
    cases d1.symm.trans dd
  · exact ⟨new1 (Nat.le_succ _), I1.new (new1 (Nat.le_succ _)), fun q => absurd (Heap.lt_size eo) (q ▸ Nat.not_lt.mpr (Nat.le_succ _))⟩
theorem gv_of (D : GenOK fd fa g) (W : Frm fd.scope (callEnvC fd s1.heap.objs.size fa) s1.heap) : GV s1.heap fd.scope (callEnvC fd s1.heap.objs.size fa) := ⟨W, fun a q => by
  rcases q with q | ⟨k, n, kd, h1, h2, _⟩
  · exact q
  · have h3 := D.loc _ (List.mem_of_getElem? h1)
    rcases h3 with h3 | h3 <;> rcases h2 with h2 | h2 <;> exact (nomatch h3.symm.trans h2), D.co⟩
theorem esc_snd {G : GX} (gkh : GK G d) (R : RoomA A d) (hd : 2 ≤ d) (D : GenOK fd fa g) : EscS A := fun {sc i j pi pj pt pf pc p e m ss ms} w1 w2 He Hb' => ⟨fun {env h0 ρ σ φ s fl ρ' σ' Q E} W I F ex h => by
  refine thn_case ex fun v σ1 e1 ex => wpAny_For ?_ (fun x => rfl)
  obtain ⟨o, ho, hdata⟩ := D.ob
  refine wpAny_Call_NameR (glo_snd gkh w1 W.K I D.mga (callWith_def hdata (sndEs_cons He (fun _ => w2) sndEs_nil W.K I F (vs := [v]) (by unfold kCons; rw [e1]; rfl) fun xs s1 φ1 r1 I1 t1 => ⟨I1.keep _ _ ho, ?_⟩) (star_ok w2)))
  obtain ⟨y, rfl, r2⟩ := VRs.one r1
  clear r1
  refine str1_case r2 ex fun x ty ex => ?_
  refine wpAny_call (codeAny_call_generator (Nat.lt_of_le_of_lt (Nat.le_add_right _ _) R.dep) (I1.keep _ _ ho) hdata D.co D.gen D.body (D.cd.keeps I1.keep) ?_)
  rw [D.bind, D.clo]
  refine wpAny_pure (wpAny_newFunctionEnv_cells D.wf.fn (binds_kind D.wf (Nat.le_of_ble_eq_true rfl)) fun genv hgenv s2 C => ?_)
  obtain rfl : genv = callEnvC fd s1.heap.objs.size fa := hgenv
  obtain ⟨hp, tk, e2⟩ := C.toInCall.same
  have g1 : Nw s1 s2 := ⟨⟨fun a o h _ => C.toInCall.keep a o h, by rw [e2], fun i y h => by rw [e2]; exact h⟩, fun a o h => ⟨o, C.toInCall.keep a o h⟩⟩
  have b1 : AllBare s2.gens := by rw [e2]; exact I1.bare
  have hgs : s2.gens = s1.gens := by rw [e2]
  have I0 : SR [] [] s2 := (sr0 I1).nw' g1 b1
  obtain ⟨GW, GF⟩ := call_env (nv := 4) D.wf D.glob D.blt (vs := [.str x]) (Nat.le_of_ble_eq_true rfl) I0 (.cons (.str x ty) .nil) (Nw.imm g1) (fun a ha => absurd ha List.not_mem_nil) I1.keep C
  refine ⟨D.lim.keeps fun a o h => C.toInCall.keep _ _ (I1.keep _ _ h), ?_⟩
  have g3 : Nw s2 { s2 with gens := s2.gens.push (.fresh (.func (genBody g) (callEnvC fd s1.heap.objs.size fa))), toks := s2.toks + 1 + 1, heap := s2.heap.push { cls := .type "generator", data := .fields #[.int s2.gens.size 0, .str fd.name s2.toks, .str fd.qualname (s2.toks + 1)] } } :=
    ⟨⟨fun a o e _ => Heap.get?_push_of_some _ e, rfl, fun i y e => by
      have hlt := (Array.getElem?_eq_some_iff.mp e).1
      show (s2.gens.push _)[i]? = some y
      rw [Array.getElem?_push, if_neg (Nat.ne_of_lt hlt)]; exact e⟩, fun a o e => ⟨o, Heap.get?_push_of_some _ e⟩⟩
  have hge : Heap.IsGen (s2.heap.push { cls := .type "generator", data := .fields #[.int s2.gens.size 0, .str fd.name s2.toks, .str fd.qualname (s2.toks + 1)] }) s2.heap.objs.size s2.gens.size := ⟨_, _, _, Heap.get?_push_size _ rfl, rfl, rfl, rfl⟩
  have hgt : (s2.gens.push (.fresh (.func (genBody g) (callEnvC fd s1.heap.objs.size fa))))[s2.gens.size]? = some (.fresh (.func (genBody g) (callEnvC fd s1.heap.objs.size fa))) := Array.getElem?_push_size
  have hn2 : ∀ a, s2.heap.objs.size ≤ a → s1.heap.get? a = none := fun a ha => no_obj fun o q => none_some (no_at ha) (g1.keep a o q id)
  exact wpAny_pyIter_gen hge (esc_loop W I1.keep D.lim R hd (F.stp I t1) (tg_tup (ts := [.Name i pi, .Name j pj]) (ns := [i, j]) R.hh rfl) Hb' (ite_v ex)
    (el_first D R hd I1 (F.stp I t1) (gv_of D GW) (GF.stp I0 (.nw g3)) (new_addr _) (g1.nw g3) (b1.push rfl) hge (hn2 _ (Nat.le_refl _)) (by rw [← hgs]; exact Array.getElem?_size) hgt) (h.stp t1))⟩
end
end
section
set_option maxHeartbeats 2000000
set_option backward.match.sparseCases false
open PySem PySem.W PySem.W.X PyProof.Rows PySem.Calls
theorem FSnd.le {d d' : Nat} {Ff : List T → Option (T × Nat)} {fa : Addr} (h : FSnd d Ff fa) (hd : d ≤ d') : FSnd d' Ff fa := fun R => h (R.le hd)
noncomputable def flE (e : DictEntry) (k : Int) (s : List Nat) : Bool := match e.key with
  | .int k' _ => (match e.val with
    | .str s' _ => k' == k && s' == S s && e.hash == hashInt k
    | _ => false)
  | _ => false
noncomputable def flChk : List DictEntry → List (Int × List Nat) → Bool
  | [], [] => true
  | e :: es, p :: fl => flE e p.1 p.2 && flChk es fl
  | _, _ => false
theorem flE_ok {e : DictEntry} {k : Int} {s : List Nat} (h : flE e k s = true) : ∃ t u, e = ⟨hashInt k, .int k t, .str (S s) u⟩ := by
  obtain ⟨hs, ky, vl⟩ := e
  cases ky with
  | int k' t =>
    cases vl with
    | str s' u =>
      obtain ⟨h1, h2, h3⟩ := and3 h
      cases beq_iff_eq.mp h1; cases beq_iff_eq.mp h2; cases beq_iff_eq.mp h3
      exact ⟨t, u, rfl⟩
    | _ => cases h
  | _ => cases h
theorem flChk_ok {es : List DictEntry} : ∀ {fl : List (Int × List Nat)}, flChk es fl = true → ∃ kvs : List (Int × Value), Pairs (intKind prog w) es kvs ∧ (∀ e ∈ es, ∃ k, (intKind prog w).is k e.key = true ∧ e.hash = (intKind prog w).hash k) ∧ kvs.map (·.1) = fl.map (·.1) ∧
    ∀ i, match getK fl i with
      | none => valueAt kvs i = none
      | some s => ∃ t, valueAt kvs i = some (.str (S s) t) := by
  induction es with
  | nil =>
    intro fl h
    cases fl with
    | nil => exact ⟨[], .nil, fun e h => absurd h List.not_mem_nil, rfl, fun i => rfl⟩
    | cons _ _ => cases h
  | cons e es ih =>
    intro fl h
    cases fl with
    | nil => cases h
    | cons p fl =>
      obtain ⟨k, s⟩ := p
      obtain ⟨h1, h2⟩ := and2 h
      obtain ⟨t, u, rfl⟩ := flE_ok h1
      obtain ⟨kvs, h3, h4, h5, h6⟩ := ih h2
      refine ⟨(k, .str (S s) u) :: kvs, .cons isIntKind rfl h3, fun e he => (List.mem_cons.mp he).elim (fun q => q ▸ ⟨k, isIntKind, rfl⟩) (h4 e), congrArg (k :: ·) h5, fun i => ?_⟩
      by_cases hi : k = i
      · subst hi
        simp [getK, valueAt]
      · have h7 := h6 i
        simp only [getK, valueAt, List.find?_cons, hi, decide_false] at h7 ⊢
        exact h7
noncomputable def recN (p : Program) (n : PySem.Str) : Option DefRec := (recsOf p).find? fun d => d.name == n
noncomputable def noRec : DefRec := ⟨"", default, [], default, default⟩
noncomputable def recD (p : Program) (n : PySem.Str) : DefRec := (recN p n).getD noRec
noncomputable def bis : List BI := [.len, .range, .list, .min2, .minL, .iter, .next, .ord, .chr, .hex]
theorem bis_all (b : BI) : b ∈ bis := by cases b <;> unfold bis <;> repeat constructor
noncomputable def blts : List (PySem.Str × Value) := ("sum", .builtin "sum") :: ("enumerate", .type "enumerate") :: bis.map fun b => (biName b, biVal b)
structure Chk (gi : List Int) (fl : List (Int × List Nat)) (tab : Nat → Option (Nat × Nat × (GX → MS))) (K : Frag) : Prop where
  sys : (K.lookup sysModules).isSome = true
  gint : ∀ (g : Nat) (n : PySem.Str) (i : Int), gnN[g]? = some n → gi[g]? = some i → valOf vw n = some (.int i)
  bi : ∀ n v, (n, v) ∈ blts → nsIn K mainGlobals n = some none ∧ bootBuiltins n = some v ∧ n ≠ "__name__"
  flag : ∃ fa es n, nsIn K mainGlobals flN = some (some (.ref fa)) ∧ (fa == sysModules) = false ∧ K.lookup fa = some (dO es n) ∧ flChk es fl = true ∧ (fl.map (·.1)).Nodup
  defs : ∀ (f : Nat) (n : PySem.Str) (nv np : Nat) (b : GX → MS), fnN[f]? = some n → tab f = some (nv, np, b) → recN vw n = some (recD vw n) ∧ (∃ ds, ∀ G, sx G ds 14 (recD vw n).scope (recD vw n).body = b G) ∧ fwf (recD vw n).scope nv = true ∧ (recD vw n).scope.isCoroutine = false ∧ (recD vw n).scope.isGenerator = false ∧ np ≤ nv ∧
    ∀ (pm cd doc : Value) (xs : List Value), xs.length = np → bindArgs (docDef (recD vw n).name (recD vw n).params (recD vw n).body (recD vw n).scope pm cd doc) ⟨xs, []⟩ = pure (bindsOf (recD vw n).scope xs)
  gen : ∃ g : GP, recN vw genN = some (recD vw genN) ∧ (recD vw genN).body = genBody g ∧ fwf (recD vw genN).scope 4 = true ∧ (recD vw genN).scope.names.all (fun x => x.2 == .local || x.2 == .globalImplicit) = true ∧ (recD vw genN).scope.isCoroutine = false ∧ (recD vw genN).scope.isGenerator = true ∧
    (∀ (pm cd doc v : Value), bindArgs (docDef (recD vw genN).name (recD vw genN).params (recD vw genN).body (recD vw genN).scope pm cd doc) ⟨[v], []⟩ = pure (bindsOf (recD vw genN).scope [v])) ∧
    (((recD vw genN).scope.names.map (·.1)).take 4 = (List.range 4).map g.nm) ∧ Mine.gk (recD vw genN).scope "enumerate" = true ∧ (∀ i, i < 4 → nIx (recD vw genN).scope (g.nm i) = i) ∧
    ∀ G : GX, (cx G false 6).t (recD vw genN).scope (g.ex 0) = tV (kVar 2) ∧ (cx G false 6).e (recD vw genN).scope (g.ex 1) = mTup (k2 (binV .Add) (kV (.str [92])) (kVar 3)) ∧
      (cx G false 6).t (recD vw genN).scope (g.ex 2) = tCmp .Eq (kVar 3) (kV (.str [92])) ∧ (cx G false 6).e (recD vw genN).scope (g.ex 3) = mTup (kVar 3) ∧ (cx G false 6).t (recD vw genN).scope (g.ex 4) = tV (kVar 2) ∧ (cx G false 6).e (recD vw genN).scope (g.ex 5) = mTup (kV (.str [92]))
section
variable {gi : List Int} {fl : List (Int × List Nat)} {tab : Nat → Option (Nat × Nat × (GX → MS))} {d n : Nat} {G : GX}
theorem bi_get (F : Facts k0) (C : Chk gi fl tab (kF k0.w.params)) {n : PySem.Str} {v : Value} (h : (n, v) ∈ blts) : mg n = none ∧ mb n = some v := by
  obtain ⟨mean, T⟩ := F.T
  obtain ⟨h1, h2, h3⟩ := C.bi n v h
  exact ⟨mg_none_of F.KX T.g h1, (T.builtins _ h3).trans h2⟩
theorem scr_ok (F : Facts k0) : ScrOK := Exists.elim F.scr fun xs q => ⟨_, q.1, notImm rfl rfl⟩
theorem gk_top (F : Facts k0) (C : Chk gi fl tab (kF k0.w.params)) (h1 : G.gints = gi) (h2 : G.flags = fl) (h3 : G.ro = roN k0.ns)
    (hfn : ∀ (f : Nat) (n : PySem.Str) (ts : List T) (r : T × Nat), fnN[f]? = some n → G.F f ts = some r → ∃ fa o fd, mg n = some (.ref fa) ∧ hb.get? fa = some o ∧ o.data = .func fd ∧ FSnd d (G.F f) fa) : GK G d := by
  obtain ⟨mean, T⟩ := F.T
  refine ⟨Exists.elim (Option.isSome_iff_exists.mp C.sys) fun o ho => ⟨o, F.KX _ _ ho⟩, T.g, T.b, fun g n i hn hi => ?_, fun b => bi_get F C (List.mem_cons_of_mem _ (List.mem_cons_of_mem _ (List.mem_map.mpr ⟨b, bis_all b, rfl⟩))), bi_get F C List.mem_cons_self, ?_, ?_, hfn⟩
  · obtain ⟨v, e1, e2⟩ := T.const _ _ (C.gint g n i hn (h1 ▸ hi))
    cases e2 k0.hb
    exact ⟨_, e1⟩
  · obtain ⟨fa, es, ep, e1, e2, e3, e4, e5⟩ := C.flag
    obtain ⟨kvs, p1, p2, p3, p4⟩ := flChk_ok e4
    exact ⟨fa, kvs, mg_of F.KX T.g e1, e2, ⟨_, _, _, F.KX _ _ e3, ⟨rfl, rfl, rfl⟩, rfl, fun e he => p2 e (by simpa using he), by simpa using p1, by rw [p3]; exact e5⟩, by rw [h2]; exact p4⟩
  · rw [h3]
    intro a ns e
    obtain rfl : a = scrA := Classical.byContradiction fun q => nomatch (if_neg q).symm.trans e
    cases (if_pos rfl).symm.trans e
    exact Exists.elim F.scr fun xs q => ⟨xs, 0, q.1, q.2⟩
end
end
section
set_option maxHeartbeats 2000000
set_option backward.match.sparseCases false
open PySem PySem.W PySem.W.X PyProof.Rows PySem.Calls
section
variable {gi : List Int} {fl : List (Int × List Nat)} {tab : Nat → Option (Nat × Nat × (GX → MS))} {d : Nat} {G : GX}
theorem recN_in {n : PySem.Str} (h : recN vw n = some (recD vw n)) : recD vw n ∈ recsOf vw ∧ (recD vw n).name = n :=
  ⟨List.mem_of_find?_eq_some h, beq_iff_eq.mp (List.find?_some (p := fun d : DefRec => d.name == n) h)⟩
theorem def_ok (F : Facts k0) {n : PySem.Str} {nv np : Nat} (hD : recN vw n = some (recD vw n)) (hf : fwf (recD vw n).scope nv = true) (hco : (recD vw n).scope.isCoroutine = false) (hgen : (recD vw n).scope.isGenerator = false) (hnp : np ≤ nv)
    (hbind : ∀ (pm cd doc : Value) (xs : List Value), xs.length = np → bindArgs (docDef (recD vw n).name (recD vw n).params (recD vw n).body (recD vw n).scope pm cd doc) ⟨xs, []⟩ = pure (bindsOf (recD vw n).scope xs)) :
    ∃ fa o fd, mg n = some (.ref fa) ∧ hb.get? fa = some o ∧ o.data = .func fd ∧ fd.scope = (recD vw n).scope ∧ DefOK fd fa nv np (recD vw n).body := by
  obtain ⟨mean, T⟩ := F.T
  obtain ⟨hm, hn⟩ := recN_in hD
  obtain ⟨a, o, pm, code, doc, h1, h2, h3, h4⟩ := T.fn _ hm
  exact ⟨a, o, _, (congrArg mg hn.symm).trans h1, h2, h3, rfl, ⟨o, h2, h3⟩, scr_ok F, T.nolimit, h4, rfl, rfl, rfl, hco, hgen, fwf_ok hf, hnp, rfl, hbind pm code doc⟩
theorem sB_snd {A : Around} {sc : Scope} {g : GP} {b : Bool} {k : Nat} (h : nIx sc (g.nm 2) = 2) : SndS A sc (sB g b k) (sAsg 2 (kV (.bool b))) := h ▸ sndS_assign0 rfl (snd_const (k := .bool b))
theorem gen_ok (F : Facts k0) (C : Chk gi fl tab (kF k0.w.params)) (g0 : GK G 0) : ∃ fd fa g, GenOK fd fa g := by
  obtain ⟨mean, T⟩ := F.T
  obtain ⟨g, hD, hb, hf, hl, hco, hg, hbi, hn, he, hx, hc⟩ := C.gen
  obtain ⟨hm, hn'⟩ := recN_in hD
  obtain ⟨a, o, pm, code, doc, h1, h2, h3, h4⟩ := T.fn _ hm
  obtain ⟨c0, c1, c2, c3, c4, c5⟩ := hc G
  have hat : ∀ i, i < 4 → At (recD vw genN).scope i (g.nm i) := fun i hi => by
    have h : (((recD vw genN).scope.names.map (·.1)).take 4)[i]? = ((List.range 4).map g.nm)[i]? := congrArg (·[i]?) hn
    rw [List.getElem?_take_of_lt hi] at h
    exact h.trans (by rw [List.getElem?_map, List.getElem?_range hi]; rfl)
  exact ⟨_, a, g, (congrArg mg hn'.symm).trans h1, ⟨o, h2, h3⟩, T.nolimit, h4, rfl, rfl, rfl, hco, hg, fwf_ok hf, fun x hx => (Bool.or_eq_true_iff.mp (List.all_eq_true.mp hl x hx)).imp beq_iff_eq.mp beq_iff_eq.mp, congrArg _ hb, hbi pm code doc, hat,
    fun A R => ⟨⟨c0 ▸ (cx_snd g0 R 6).t _ _, c1 ▸ (cx_snd g0 R 6).e _ _, sB_snd (hx 2 (by decide)), c2 ▸ (cx_snd g0 R 6).t _ _, sB_snd (hx 2 (by decide)), c3 ▸ (cx_snd g0 R 6).e _ _, c4 ▸ (cx_snd g0 R 6).t _ _, c5 ▸ (cx_snd g0 R 6).e _ _,
      by have := tg_tup (sc := (recD vw genN).scope) (ts := [.Name (g.nm 1) (g.pp 6), .Name (g.nm 3) (g.pp 7)]) (q := g.pp 8) R.hh rfl
         unfold ixs at this
         rw [List.map_cons, List.map_cons, hx 1 (by decide), hx 3 (by decide)] at this
         exact this, R.hh⟩, fun K I h => blt_snd g0 he K I (bi_get F C (List.mem_cons_of_mem _ List.mem_cons_self)) h⟩⟩
theorem gk_chain (F : Facts k0) (C : Chk gi fl tab (kF k0.w.params)) (n : Nat) : GK (GT gi fl tab (roN k0.ns) n) (n + 2) := by
  induction n with
  | zero => exact gk_top F C rfl rfl rfl fun f n ts r _ e => nomatch e
  | succ n ih =>
    obtain ⟨gfd, gfa, g, DG⟩ := gen_ok F C (gk_top (G := GT gi fl tab (roN k0.ns) 0) F C rfl rfl rfl fun f n ts r _ e => nomatch e)
    refine gk_top F C rfl rfl rfl fun f nm ts r hf e => ?_
    have e : (match tab f with
      | some (nv, np, b) => if ts.length = np then runF nv (b (GT gi fl tab (roN k0.ns) n)) ts else none
      | none => none) = some r := e
    cases ht : tab f with
    | none => rw [ht] at e; cases e
    | some q =>
      obtain ⟨nv, np, b⟩ := q
      obtain ⟨h1, ⟨ds, h2⟩, h3, h4, h5, h6, h7⟩ := C.defs f nm nv np b hf ht
      obtain ⟨fa, o, fd, m1, m2, m3, m4, D⟩ := def_ok F h1 h3 h4 h5 h6 h7
      refine ⟨fa, o, fd, m1, m2, m3, FSnd_of D (ms := b (GT gi fl tab (roN k0.ns) n)) (fun A R => ?_) fun ts r e => ?_⟩
      · rw [← h2, m4]; exact sx_snd ih R (esc_snd ih R (Nat.le_add_left 2 n) DG) 14 _ _
      · have e : (match tab f with
          | some (nv, np, b) => if ts.length = np then runF nv (b (GT gi fl tab (roN k0.ns) n)) ts else none
          | none => none) = some r := e
        rw [ht] at e
        exact ⟨ite_c e, ite_v e⟩
theorem callT_adr {Ff : List T → Option (T × Nat)} (e : Ff [.adr scrA] = some (.bool true, 0)) : callT Ff [.adr scrA] [] = some (.bool true, []) := by
  unfold callT
  rw [show frzL (frz [] 8) [V.adr scrA] = some ([.adr scrA], []) from rfl]
  dsimp only
  rw [e]; rfl
theorem goal_k0 (C : Chk gi fl tab (kF k0.w.params)) (n : Nat) (hn : n ≤ 90) (hl : nsIn (kF k0.w.params) mainGlobals "law" = some (some (.ref 127)))
    (plain : k0.ns.length ≤ 63 → (GT gi fl tab (roN k0.ns) n).F 17 [.adr scrA] = some (.bool true, 0)) : Goal k0 := by
  intro F s Q E hh hg h
  have gkh := gk_chain F C n
  have plain := plain F.len
  obtain ⟨fa, o, fd, h1, h2, h3, h4⟩ := gkh.fns 17 "law" _ _ rfl plain
  obtain ⟨mean, T⟩ := F.T
  cases h1.symm.trans (mg_of F.KX T.g hl)
  have hR : RoomA callerA (n + 2) := ⟨rfl, by show 1 + claimMargin + (n + 2) < recursionLimit; simp only [claimMargin, recursionLimit]; omega, by have := cLine_is; show 4 + 10 * (n + 2) + 110 < cLine; omega⟩
  have I : SR [] [] s := ⟨fun a o e => (congrArg (·.get? a) hh).trans e, rfl, List.nodup_nil, fun a ha => absurd ha List.not_mem_nil, fun k o e => (nomatch e), AllBare.of_eq hg⟩
  exact h4 hR I (.cons .adr .nil) (callT_adr plain) fun z s' φ' r I' t => by
    cases r
    exact h s' (fun a o e => I'.keep a o ((congrArg (·.get? a) hh).symm.trans e)) t.go.os I'.bare
end
end
section
set_option backward.match.sparseCases false
open PySem
section
variable {α β : Type} {ρ ρ' ρ1 : Env1} {σ σ' σ1 σ2 σ3 : St} {v x y z : V} {f : V → V → St → Option (V × St)} {f3 : V → V → V → St → Option (V × St)} {g : List V → St → Option (V × St)} {a b c e : ME} {t u : MT} {es : MEs} {vs ws : List V} {s ss o : MS} {r r' : Env1 × St} {q : Option (Fl × Env1 × St)} {w : Option (V × St)} {k : Bool} {fl : Fl} {i j n : Nat} {op op' : CmpOp} {m : MI} {bd : V → Env1 → Option Env1}
theorem thn_eq {α β : Type} {a : Option (α × St)} {f : α → St → Option β} {x : α} (h : a = some (x, σ)) : thn a f = f x σ := by rw [h]; rfl
theorem r2 (ha : a ρ σ = some (x, σ1)) (hb : b ρ σ1 = some (y, σ2)) (hf : f x y σ2 = w) : k2 f a b ρ σ = w := (thn_eq ha).trans ((thn_eq hb).trans hf)
theorem r3 (ha : a ρ σ = some (x, σ1)) (hb : b ρ σ1 = some (y, σ2)) (hc : c ρ σ2 = some (z, σ3)) (hf : f3 x y z σ3 = w) : k3 f3 a b c ρ σ = w := (thn_eq ha).trans ((thn_eq hb).trans ((thn_eq hc).trans hf))
theorem rEs (h : es ρ σ = some (vs, σ1)) (hf : g vs σ1 = w) : kEs g es ρ σ = w := (thn_eq h).trans hf
theorem rCons (ha : a ρ σ = some (x, σ1)) (hs : es ρ σ1 = some (vs, σ2)) : kCons a es ρ σ = some (x :: vs, σ2) := (thn_eq ha).trans (thn_eq hs)
theorem rOne (ha : a ρ σ = some (x, σ1)) : kCons a kNil ρ σ = some ([x], σ1) := rCons ha rfl
theorem rMeth (ho : a ρ σ = some (x, σ1)) (hm : mOk σ1 m x = true) (hs : es ρ σ1 = some (vs, σ2)) (hf : miV m x vs σ2 = w) : kMeth m a es ρ σ = w := (thn_eq ho).trans ((if_pos hm).trans ((thn_eq hs).trans hf))
theorem rFlag {G : GX} {i : Int} (ha : a ρ σ = some (.int i, σ1)) (hb : b ρ σ1 = some (y, σ2)) : kFlag G a b ρ σ = some (((getK G.flags i).map V.str).getD y, σ2) := (thn_eq ha).trans (thn_eq hb)
theorem rSum {ns : List (Int × Int)} {es : List (Int × V)} (ha : a ρ σ = some (.ref j, σ1)) (hd : σ1[j]? = some (.dI es)) (hv : vints es = some ns) : kSumVals a ρ σ = some (.int (sumI (ns.map (·.2))), σ1) := (thn_eq ha).trans (by show atI σ1 j _ = _; unfold atI; rw [hd]; show Option.map _ (vints es) = _; rw [hv]; rfl)
theorem rIteT (hc : t ρ σ = some (true, σ1)) (h : a ρ σ1 = w) : kIte t a b ρ σ = w := (thn_eq hc).trans h
theorem rIteF (hc : t ρ σ = some (false, σ1)) (h : b ρ σ1 = w) : kIte t a b ρ σ = w := (thn_eq hc).trans h
theorem tC (ha : a ρ σ = some (x, σ1)) (hb : b ρ σ1 = some (y, σ2)) (hf : cmpV σ2 op x y = some k) : tCmp op a b ρ σ = some (k, σ2) := (thn_eq ha).trans ((thn_eq hb).trans (by rw [hf]; rfl))
theorem tVal (ha : a ρ σ = some (x, σ1)) (h : truV x = some k) : tV a ρ σ = some (k, σ1) := (thn_eq ha).trans (by rw [h]; rfl)
theorem tN (h : t ρ σ = some (k, σ1)) : tNot t ρ σ = some (!k, σ1) := thn_eq h
theorem tAnd1 (h : t ρ σ = some (true, σ1)) {w : Option (Bool × St)} (hu : u ρ σ1 = w) : tCons true t u ρ σ = w := (thn_eq h).trans hu
theorem tAnd0 (h : t ρ σ = some (false, σ1)) : tCons true t u ρ σ = some (false, σ1) := thn_eq h
theorem tOr0 (h : t ρ σ = some (false, σ1)) {w : Option (Bool × St)} (hu : u ρ σ1 = w) : tCons false t u ρ σ = w := (thn_eq h).trans hu
theorem tOr1 (h : t ρ σ = some (true, σ1)) : tCons false t u ρ σ = some (true, σ1) := thn_eq h
theorem sNext (h : s r = some (.next, r')) (hs : ss r' = q) : sCons s ss r = q := by unfold sCons; rw [h]; exact hs
theorem sLast (h : s r = some (.next, r')) : sCons s sNil r = some (.next, r') := sNext h rfl
theorem sStop (h : s r = some (.ret v, r')) : sCons s ss r = some (.ret v, r') := by unfold sCons; rw [h]
theorem sOut (h : s r = some (.brk, r')) : sCons s ss r = some (.brk, r') := by unfold sCons; rw [h]
theorem iAsg (h : e ρ σ = some (v, σ1)) (hl : setL ρ i v = some ρ') : sAsg i e (ρ, σ) = some (.next, ρ', σ1) := (thn_eq h).trans (by unfold nxt; rw [hl]; rfl)
theorem iAsg2 (h : e ρ σ = some (v, σ1)) (hl : setL ρ i v = some ρ1) (hk : setL ρ1 j v = some ρ') : sAsg2 i j e (ρ, σ) = some (.next, ρ', σ1) := (thn_eq h).trans (by dsimp only; rw [hl]; dsimp only; unfold nxt; rw [hk]; rfl)
theorem iAug {op : Operator} (h0 : ρ[i]? = some (some x)) (h : e ρ σ = some (y, σ1)) (ha : augV op x y = some v) (hl : setL ρ i v = some ρ') : sAug i op e (ρ, σ) = some (.next, ρ', σ1) := by
  unfold sAug
  dsimp only
  rw [h0]
  exact (thn_eq h).trans (by rw [ha]; dsimp only; unfold nxt; rw [hl]; rfl)
theorem iSub (he : e ρ σ = some (v, σ1)) (ha : a ρ σ1 = some (x, σ2)) (hb : b ρ σ2 = some (y, σ3)) (hs : storeV σ3 x y v = some σ') : sSub a b e (ρ, σ) = some (.next, ρ, σ') := (thn_eq he).trans ((thn_eq ha).trans ((thn_eq hb).trans (by rw [hs]; rfl)))
theorem iIfT (h : t ρ σ = some (true, σ1)) (hb : s (ρ, σ1) = q) : sIf t s o (ρ, σ) = q := (thn_eq h).trans hb
theorem iIfF (h : t ρ σ = some (false, σ1)) (hb : o (ρ, σ1) = q) : sIf t s o (ρ, σ) = q := (thn_eq h).trans hb
theorem iRet (h : e ρ σ = some (v, σ1)) : sRet e (ρ, σ) = some (.ret v, ρ, σ1) := thn_eq h
theorem iExpr (h : e ρ σ = some (v, σ1)) : sExpr e (ρ, σ) = some (.next, ρ, σ1) := thn_eq h
theorem iAsgT {is : List Nat} (h : e ρ σ = some (v, σ1)) (hu : unp σ1 v = some vs) (hs : setAll ρ is vs = some ρ') : sAsgT is e (ρ, σ) = some (.next, ρ', σ1) := (thn_eq h).trans (by dsimp only; rw [hu]; dsimp only; rw [hs]; rfl)
theorem iSwap (ha : a ρ σ = some (x, σ1)) (hb : b ρ σ1 = some (y, σ2)) (h1 : setL ρ i x = some ρ1) (h2 : setL ρ1 j y = some ρ') : sSwap i j a b (ρ, σ) = some (.next, ρ', σ2) := (thn_eq ha).trans ((thn_eq hb).trans (by dsimp only; rw [h1]; dsimp only; unfold nxt; rw [h2]; rfl))
theorem iFor {it : It} (h : e ρ σ = some (v, σ1)) (hm : mkIter σ1 v = some it) (hf : fo bd s o 10000 it (ρ, σ1) = q) : sForB bd e s o (ρ, σ) = q := (thn_eq h).trans (by rw [hm]; exact hf)
theorem iEsc {x : List Nat} (h : e ρ σ = some (.str x, σ1)) (hx : lenOk x.length = true) (hf : fo (bTup [i, j]) s sNil 1000000 (.vs (escGo 0 false x)) (ρ, σ1) = q) : sEsc i j e s (ρ, σ) = q := (thn_eq h).trans ((if_pos hx).trans hf)
theorem iWh (h : wh (fun r => t r.1 r.2) s 10000 r = q) : sWh t s r = q := h
theorem fo_next {l : List V} (h1 : bd v ρ = some ρ1) (h2 : s (ρ1, σ) = some (.next, r')) (h : fo bd s o n (.vs l) r' = q) : fo bd s o (n + 1) (.vs (v :: l)) (ρ, σ) = q := by
  show (match bd v ρ with
    | some ρ => match s (ρ, σ) with
      | some (.next, r) => fo bd s o n (.vs l) r
      | some (.brk, r) => some (.next, r)
      | some (.ret v, r) => some (.ret v, r)
      | none => none
    | none => none) = q
  rw [h1]; dsimp only; rw [h2]; exact h
theorem fo_ret {l : List V} (h1 : bd v ρ = some ρ1) (h2 : s (ρ1, σ) = some (.ret x, r')) : fo bd s o (n + 1) (.vs (v :: l)) (ρ, σ) = some (.ret x, r') := by
  show (match bd v ρ with
    | some ρ => match s (ρ, σ) with
      | some (.next, r) => fo bd s o n (.vs l) r
      | some (.brk, r) => some (.next, r)
      | some (.ret v, r) => some (.ret v, r)
      | none => none
    | none => none) = _
  rw [h1]; dsimp only; rw [h2]
theorem fo_brk {l : List V} (h1 : bd v ρ = some ρ1) (h2 : s (ρ1, σ) = some (.brk, r')) : fo bd s o (n + 1) (.vs (v :: l)) (ρ, σ) = some (.next, r') := by
  show (match bd v ρ with
    | some ρ => match s (ρ, σ) with
      | some (.next, r) => fo bd s o n (.vs l) r
      | some (.brk, r) => some (.next, r)
      | some (.ret v, r) => some (.ret v, r)
      | none => none
    | none => none) = _
  rw [h1]; dsimp only; rw [h2]
theorem fo_inv {P : Nat → Env1 × St → Prop} (l : List V) : ∀ {j n : Nat} {r : Env1 × St}, l.length < n → P j r → (∀ (i : Nat) (v : V) (r : Env1 × St), l[i]? = some v → P (j + i) r → ∃ ρ r', bd v r.1 = some ρ ∧ s (ρ, r.2) = some (.next, r') ∧ P (j + i + 1) r') →
    ∃ r', fo bd s sNil n (.vs l) r = some (.next, r') ∧ P (j + l.length) r' := by
  induction l with
  | nil =>
    intro j n r hn h0 _
    cases n with
    | zero => cases hn
    | succ n => exact ⟨r, rfl, h0⟩
  | cons v l ih =>
    intro j n r hn h0 h
    cases n with
    | zero => cases hn
    | succ n =>
      obtain ⟨ρ, r1, h1, h2, h3⟩ := h 0 v r rfl h0
      obtain ⟨r2, h4, h5⟩ := ih (j := j + 1) (n := n) (Nat.lt_of_succ_lt_succ hn) h3 fun i v r hi hp => by
        rw [Nat.add_right_comm j 1 i] at hp ⊢
        exact h (i + 1) v r hi hp
      exact ⟨r2, fo_next (ρ := r.1) (σ := r.2) h1 h2 h4, by rw [Nat.add_right_comm] at h5; exact h5⟩
theorem wh_next {T : Env1 × St → Option (Bool × St)} (h1 : T (ρ, σ) = some (true, σ1)) (h2 : s (ρ, σ1) = some (.next, r')) (h : wh T s n r' = q) : wh T s (n + 1) (ρ, σ) = q := by
  unfold wh; rw [h1]; dsimp only; rw [h2]; exact h
theorem wh_end {T : Env1 × St → Option (Bool × St)} (h1 : T (ρ, σ) = some (false, σ1)) : wh T s (n + 1) (ρ, σ) = some (.next, ρ, σ1) := by
  unfold wh; rw [h1]
theorem cloop_next {β : Type} {F : V → St → β → Option (β × St)} {l : List V} {acc acc' : β} {q : Option (β × St)} (h : F v σ acc = some (acc', σ')) (h' : cloop F n (.vs l) σ' acc' = q) : cloop F (n + 1) (.vs (v :: l)) σ acc = q := by
  show (match F v σ acc with
    | some (acc', σ') => cloop F n (.vs l) σ' acc'
    | none => none) = _
  rw [h]; exact h'
theorem cl_inv {β : Type} {F : V → St → β → Option (β × St)} {P : Nat → St → β → Prop} (l : List V) : ∀ {j n : Nat} {σ : St} {acc : β}, l.length < n → P j σ acc → (∀ (i : Nat) (v : V) (σ : St) (acc : β), l[i]? = some v → P (j + i) σ acc → ∃ acc' σ', F v σ acc = some (acc', σ') ∧ P (j + i + 1) σ' acc') →
    ∃ acc' σ', cloop F n (.vs l) σ acc = some (acc', σ') ∧ P (j + l.length) σ' acc' := by
  induction l with
  | nil =>
    intro j n σ acc hn h0 _
    cases n with
    | zero => cases hn
    | succ n => exact ⟨acc, σ, rfl, h0⟩
  | cons v l ih =>
    intro j n σ acc hn h0 h
    cases n with
    | zero => cases hn
    | succ n =>
      obtain ⟨a1, σ1, h1, h3⟩ := h 0 v σ acc rfl h0
      obtain ⟨a2, σ2, h4, h5⟩ := ih (j := j + 1) (n := n) (Nat.lt_of_succ_lt_succ hn) h3 fun i v σ acc hi hp => by
        rw [Nat.add_right_comm j 1 i] at hp ⊢
        exact h (i + 1) v σ acc hi hp
      exact ⟨a2, σ2, cloop_next h1 h4, by rw [Nat.add_right_comm] at h5; exact h5⟩
theorem runF_ret {nv : Nat} {ms : MS} {ts : List T} {σ0 : St} {t : T} {ids : List Nat} {d : Nat} (h0 : thaws ts [] = (vs, σ0)) (h1 : ms (vs.map some ++ nones (nv - ts.length), σ0) = some (.ret v, ρ, σ))
    (h2 : frz σ 8 v = some (t, ids)) (h3 : (decide ids.Nodup && ids.all (fun k => decide (σ0.length ≤ k)) && sameAll (argIt vs) 0 σ0 σ) = true) (h4 : drawn (argIt vs) σ0 σ = some d) : runF nv ms ts = some (t, d) := by
  unfold runF
  dsimp only
  rw [h0]
  dsimp only
  rw [h1]
  dsimp only
  rw [h2]
  dsimp only
  rw [if_pos h3, h4]
  rfl
theorem ite_c' {α : Type} {c : Prop} [Decidable c] {o : Option α} {r : α} (e : (if c then o else none) = some r) : c := Decidable.byContradiction fun n => by rw [if_neg n] at e; cases e
theorem len_ok' {n : Nat} (h : n ≤ 100000) : lenOk n = true := decide_eq_true h
theorem oLen {x : List Nat} (h : lenOk x.length = true) : biV .len [.str x] σ = some (.int x.length, σ) := if_pos h
theorem oAddS {x y : List Nat} (h : lenOk (x.length + y.length) = true) : binV .Add (.str x) (.str y) σ = some (.str (x ++ y), σ) := if_pos h
end
end
section
set_option backward.match.sparseCases false
open PySem
section
variable {Z : Type} {q : Z → Nat → Nat → Option Z} {B : MS} {emb : Z → Option V → Option V → Env1} {sto : Z → St} {v0 : V} {ok : Nat → Z → Prop} {is : List Nat}
noncomputable def escF (q : Z → Nat → Nat → Option Z) : Nat → Bool → Z → List Nat → Option Z
  | _, _, z, [] => some z
  | i, true, z, _ :: r => escF q (i + 1) false z r
  | i, false, z, c :: r => if c = 92 then escF q (i + 1) true z r else (match q z i c with
    | some z' => escF q (i + 1) false z' r
    | none => none)
noncomputable def EscEnd (B : MS) (is : List Nat) (emb : Z → Option V → Option V → Env1) (sto : Z → St) (v0 : V) (ok : Nat → Z → Prop) (n j : Nat) (l : List V) (z : Z) (a b : Option V) (o : Option Z) : Prop := match o with
  | some z' => ∃ a' b', fo (bTup is) B sNil n (.vs l) (emb z a b, sto z) = some (.next, emb z' a' b', sto z') ∧ ok j z'
  | none => ∃ r, fo (bTup is) B sNil n (.vs l) (emb z a b, sto z) = some (.ret v0, r)
structure EscB (N : Nat) (q : Z → Nat → Nat → Option Z) (B : MS) (is : List Nat) (emb : Z → Option V → Option V → Env1) (sto : Z → St) (v0 : V) (ok : Nat → Z → Prop) : Prop where
  bd : ∀ (z : Z) (a b : Option V) (i : Int) (ch : List Nat), bTup is (.tup [.int i, .str ch]) (emb z a b) = some (emb z (some (.int i)) (some (.str ch)))
  esc : ∀ (z : Z) (i : Int) (t : List Nat), B (emb z (some (.int i)) (some (.str (92 :: t))), sto z) = some (.next, emb z (some (.int i)) (some (.str (92 :: t))), sto z)
  up : ∀ i z, i < N → ok i z → ok (i + 1) z
  q1 : ∀ (z z' : Z) (i c : Nat), i < N → ok i z → c ≠ 92 → q z i c = some z' → B (emb z (some (.int i)) (some (.str [c])), sto z) = some (.next, emb z' (some (.int i)) (some (.str [c])), sto z') ∧ ok (i + 1) z'
  q0 : ∀ (z : Z) (i c : Nat), ok i z → q z i c = none → ∃ r, B (emb z (some (.int i)) (some (.str [c])), sto z) = some (.ret v0, r)
theorem esc_fold {N : Nat} (H : EscB N q B is emb sto v0 ok) (r : List Nat) : ∀ {i : Nat} {e : Bool} {z : Z} {a b : Option V} {n : Nat}, r.length + 1 < n → i + r.length ≤ N → ok i z → EscEnd B is emb sto v0 ok n (i + r.length) (escGo i e r) z a b (escF q i e z r) := by
  induction r with
  | nil =>
    intro i e z a b n hn _ h
    cases n with
    | zero => cases hn
    | succ n =>
      cases n with
      | zero => exact absurd hn (Nat.lt_irrefl _)
      | succ n =>
        cases e with
        | false => exact ⟨a, b, rfl, h⟩
        | true => exact ⟨_, _, fo_next (H.bd z a b _ _) (H.esc z _ _) rfl, h⟩
  | cons c r ih =>
    intro i e z a b n hn hN h
    cases n with
    | zero => cases hn
    | succ n =>
      have hn' : r.length + 1 < n := Nat.lt_of_succ_lt_succ hn
      have hi : i + (c :: r).length = i + 1 + r.length := (Nat.succ_add_eq_add_succ i r.length).symm
      have nx : ∀ {z' : Z} {ch : List Nat} {l : List V} {j : Nat} {a' b' : Option V} {o : Option Z}, B (emb z (some (.int i)) (some (.str ch)), sto z) = some (.next, emb z' a' b', sto z') → EscEnd B is emb sto v0 ok n j l z' a' b' o → EscEnd B is emb sto v0 ok (n + 1) j (.tup [.int i, .str ch] :: l) z a b o := fun {z' ch l j a' b' o} h1 h2 => by
        cases o with
        | none => exact Exists.elim h2 fun r h2 => ⟨r, fo_next (H.bd z a b _ _) h1 h2⟩
        | some z2 => exact Exists.elim h2 fun a2 h2 => Exists.elim h2 fun b2 h2 => ⟨a2, b2, fo_next (H.bd z a b _ _) h1 h2.1, h2.2⟩
      rw [hi]
      rw [hi] at hN
      have hlt : i < N := Nat.lt_of_lt_of_le (Nat.lt_succ_self i) (Nat.le_trans (Nat.le_add_right _ _) hN)
      cases e with
      | true => exact nx (H.esc z i [c]) (ih (e := false) hn' hN (H.up i z hlt h))
      | false =>
        by_cases hc : c = 92
        · subst hc
          exact ih (e := true) (n := n + 1) (Nat.lt_succ_of_lt hn') hN (H.up i z hlt h)
        · rw [show escGo i false (c :: r) = .tup [.int i, .str [c]] :: escGo (i + 1) false r from if_neg hc, show escF q i false z (c :: r) = _ from if_neg hc]
          cases e1 : q z i c with
          | none => exact Exists.elim (H.q0 z i c h e1) fun r h1 => ⟨r, fo_ret (H.bd z a b _ _) h1⟩
          | some z' => exact nx (H.q1 z z' i c hlt h hc e1).1 (ih (e := false) hn' hN (H.q1 z z' i c hlt h hc e1).2)
end
noncomputable def chkB : MS := sCons (sIf (tCmp .Eq (kVar 3) (kV (.str [40]))) (sCons (sAug 1 .Add (kV (.int 1))) sNil) (sCons (sIf (tCmp .Eq (kVar 3) (kV (.str [41]))) (sCons (sAug 1 .Sub (kV (.int 1))) (sCons (sIf (tCmp .Lt (kVar 1) (kV (.int 0))) (sCons (sRet (kV (.bool false))) sNil) sNil) sNil)) sNil) sNil)) sNil
noncomputable def b_chk (G : GX) : MS := sCons (sAsg 0 (kEs (callF G 5) (kCons (kVar 0) kNil))) (sCons (sAsg 1 (kV (.int 0))) (sCons (sEsc 2 3 (kVar 0) chkB) (sCons (sRet (k2 (fCmp .Eq) (kVar 1) (kV (.int 0)))) sNil)))
noncomputable def chkP : Nat → Bool → List Nat → Bool
  | o, _, [] => o == 0
  | o, e, c :: r => if e then chkP o false r else if c = 92 then chkP o true r else if c = 40 then chkP (o + 1) false r
    else if c = 41 then (match o with | 0 => false | o + 1 => chkP o false r) else chkP o false r
noncomputable def chkQ (o _i c : Nat) : Option Nat := if c = 40 then some (o + 1) else if c = 41 then (match o with
  | 0 => none
  | o + 1 => some o) else some o
theorem chkF (r : List Nat) : ∀ (i o : Nat) (e : Bool), chkP o e r = (match escF chkQ i e o r with
    | some o' => o' == 0
    | none => false) := by
  induction r with
  | nil => exact fun _ _ _ => rfl
  | cons c r ih =>
    intro i o e
    cases e with
    | true => exact ih _ _ _
    | false =>
      unfold chkP escF
      rw [if_neg (by decide)]
      by_cases h1 : c = 92
      · rw [if_pos h1, if_pos h1]; exact ih _ _ _
      · rw [if_neg h1, if_neg h1]
        unfold chkQ
        by_cases h2 : c = 40
        · rw [if_pos h2, if_pos h2]; exact ih _ _ _
        · rw [if_neg h2, if_neg h2]
          by_cases h3 : c = 41
          · rw [if_pos h3, if_pos h3]
            cases o with
            | zero => rfl
            | succ o => exact ih _ _ _
          · rw [if_neg h3, if_neg h3]; exact ih _ _ _
theorem beq1 {c d : Nat} (h : c ≠ d) : (([c] : List Nat) == [d]) = false := beq_eq_false_iff_ne.mpr fun q => h (List.cons.inj q).1
theorem chk_B (x : List Nat) (N : Nat) : EscB N chkQ chkB [2, 3] (fun (o : Nat) a b => [some (.str x), some (.int o), a, b]) (fun _ => []) (.bool false) (fun _ _ => True) where
  bd _ _ _ _ _ := rfl
  esc _ _ _ := rfl
  up _ _ _ h := h
  q1 o o' i c _ _ hc hq := by
    refine ⟨?_, trivial⟩
    unfold chkQ at hq
    by_cases h2 : c = 40
    · subst h2; cases hq; rfl
    · rw [if_neg h2] at hq
      by_cases h3 : c = 41
      · subst h3
        cases o with
        | zero => cases hq
        | succ o =>
          cases hq
          exact sLast (iIfF (tC rfl rfl rfl) (sLast (iIfT (tC rfl rfl rfl) (sNext (iAug rfl rfl rfl rfl) (sLast (iIfF (tC rfl rfl (congrArg some (decide_eq_false (by omega)))) (congrArg (fun t : Int => some (Fl.next, ([some (V.str x), some (V.int t), some (V.int i), some (V.str [41])] : Env1), ([] : St))) (by omega))))))))
      · rw [if_neg h3] at hq
        cases hq
        exact sLast (iIfF (tC rfl rfl (congrArg some (beq1 h2))) (sLast (iIfF (tC rfl rfl (congrArg some (beq1 h3))) rfl)))
  q0 o i c _ hq := by
    unfold chkQ at hq
    by_cases h2 : c = 40
    · rw [if_pos h2] at hq; cases hq
    · rw [if_neg h2] at hq
      by_cases h3 : c = 41
      · subst h3
        cases o with
        | zero => exact ⟨_, rfl⟩
        | succ o => cases hq
      · rw [if_neg h3] at hq; cases hq
theorem callF1 {G : GX} {f : Nat} {x : List Nat} {t : T} {σ : St} (h : G.F f [.str x] = some (t, 0)) : callF G f [.str x] σ = some (thaw t σ) := by
  unfold callF callT
  rw [show frzL (frz σ 8) [.str x] = some ([.str x], []) from rfl]
  dsimp only
  rw [if_pos (by decide), h]; rfl
theorem chk_run {G : GX} {x y : List Nat} (hs : G.F 5 [.str x] = some (.str y, 0)) (hy : lenOk y.length = true) : runF 4 (b_chk G) [.str x] = some (.bool (chkP 0 false y), 0) := by
  have hl := of_decide_eq_true hy
  have h := esc_fold (chk_B y y.length) y (i := 0) (e := false) (z := 0) (a := none) (b := none) (n := 1000000) (by omega) (by omega) trivial
  rw [chkF y 0 0 false]
  have start : ∀ {q : Option (Fl × Env1 × St)} {ss : MS} {r : Env1 × St}, fo (bTup [2, 3]) chkB sNil 1000000 (.vs (escGo 0 false y)) ([some (.str y), some (.int 0), none, none], []) = some (.next, r) → ss r = q → sCons (sAsg 0 (kEs (callF G 5) (kCons (kVar 0) kNil))) (sCons (sAsg 1 (kV (.int 0))) (sCons (sEsc 2 3 (kVar 0) chkB) ss)) ([some (.str x), none, none, none], []) = q :=
    fun h1 h2 => sNext (iAsg (rEs (rOne rfl) (callF1 hs)) rfl) (sNext (iAsg rfl rfl) (sNext (iEsc rfl hy h1) h2))
  cases hF : escF chkQ 0 false 0 y with
  | none =>
    rw [hF] at h
    obtain ⟨r, h⟩ := h
    exact runF_ret (vs := [.str x]) (σ0 := []) (v := .bool false) (ρ := r.1) (σ := r.2) (ids := []) rfl (sNext (iAsg (rEs (rOne rfl) (callF1 hs)) rfl) (sNext (iAsg rfl rfl) (sStop (iEsc rfl hy h)))) rfl rfl rfl
  | some o =>
    rw [hF] at h
    obtain ⟨a, b, h, _⟩ := h
    refine runF_ret (vs := [.str x]) (σ0 := []) (v := .bool ((o : Int) == 0)) (ids := []) rfl (start h (sStop (iRet rfl))) ?_ rfl rfl
    rw [show ((o : Int) == 0) = (o == 0) by rw [Bool.eq_iff_iff]; simp]
    rfl
end
section
set_option backward.match.sparseCases false
open PySem
noncomputable def strB : MS := sCons (sIf (tCmp .Eq (kVar 5) (kV (.str [34]))) (sCons (sIf (tCmp .Is (kVar 2) (kV .none)) (sCons (sAsg 2 (kVar 4)) sNil) (sCons (sIf (tCmp .NotEq (kVar 1) (kVar 2)) (sCons (sExpr (kMeth .append (kVar 3) (kCons (k3 fSlB (kVar 0) (kVar 1) (kVar 2)) kNil))) sNil) sNil)
  (sCons (sAsg 1 (k2 (binV .Add) (kVar 4) (kV (.int 1)))) (sCons (sAsg 2 (kV .none)) sNil)))) sNil) sNil) sNil
noncomputable def strEnd : MS := sCons (sIf (tCmp .Lt (kVar 1) (kEs (biV .len) (kCons (kVar 0) kNil))) (sCons (sExpr (kMeth .append (kVar 3) (kCons (k2 fSlL (kVar 0) (kVar 1)) kNil))) sNil) sNil) (sCons (sRet (kMeth .join (kV (.str [])) (kCons (kVar 3) kNil))) sNil)
noncomputable def b_str (G : GX) : MS := sCons (sIf (tCmp .NotIn (kV (.str [34])) (kVar 0)) (sCons (sRet (kVar 0)) sNil) sNil) (sCons (sAsg 1 (kV (.int 0))) (sCons (sAsg 2 (kV .none)) (sCons (sAsg 3 (kEs fList kNil)) (sCons (sEsc 4 5 (kVar 0) strB) strEnd))))
theorem bndV_nat {n i d : Nat} (h : i ≤ n) (hn : n ≤ 100000) : bndV n (some (.int i)) d = some i :=
  (if_pos (show decide ((i : Int).natAbs ≤ 1000000) = true from decide_eq_true (by rw [Int.natAbs_natCast]; omega))).trans (congrArg some ((if_neg (Int.not_lt.mpr (Int.natCast_nonneg i))).trans (Nat.min_eq_left h)))
theorem slB {x : List Nat} {l h : Nat} {σ : St} (hl : l ≤ x.length) (hh : h ≤ x.length) (hx : x.length ≤ 100000) : fSlB (.str x) (.int l) (.int h) σ = some (.str (cut x l h), σ) := by
  show slice1 x.length (some (.int l)) (some (.int h)) _ = _
  unfold slice1
  rw [if_pos (len_ok' hx), bndV_nat hl hx, bndV_nat hh hx]
theorem slL {x : List Nat} {l : Nat} {σ : St} (hl : l ≤ x.length) (hx : x.length ≤ 100000) : fSlL (.str x) (.int l) σ = some (.str (cut x l x.length), σ) := by
  show slice1 x.length (some (.int l)) none _ = _
  unfold slice1
  rw [if_pos (len_ok' hx), bndV_nat hl hx]; rfl
theorem oApp {k : Nat} {v : V} {l : List V} {σ : St} (h : σ[k]? = some (.list l)) (hl : lenOk l.length = true) : miV .append (.ref k) [v] σ = some (.none, σ.set k (.list (l ++ [v]))) := by
  show atL σ k _ = _
  unfold atL
  rw [h]
  exact if_pos hl
noncomputable def strGo (x : List Nat) : Nat → Bool → Nat → Option Nat → List (List Nat) → List Nat → Nat × List (List Nat)
  | _, _, st, _, acc, [] => (st, acc)
  | i, e, st, op, acc, c :: r => if e then strGo x (i + 1) false st op acc r else if c = 92 then strGo x (i + 1) true st op acc r
    else if c = 34 then (match op with
      | none => strGo x (i + 1) false st (some i) acc r
      | some p => strGo x (i + 1) false (i + 1) none (if st = p then acc else acc ++ [cut x st p]) r)
    else strGo x (i + 1) false st op acc r
noncomputable def opV : Option Nat → V
  | none => .none
  | some p => .int p
structure SZ where
  st : Nat
  op : Option Nat
  acc : List (List Nat)
noncomputable def strQ (x : List Nat) (z : SZ) (i c : Nat) : Option SZ := some (if c = 34 then (match z.op with
  | none => ⟨z.st, some i, z.acc⟩
  | some p => ⟨i + 1, none, if z.st = p then z.acc else z.acc ++ [cut x z.st p]⟩) else z)
theorem strF (x r : List Nat) : ∀ (i : Nat) (e : Bool) (z : SZ), ∃ z', escF (strQ x) i e z r = some z' ∧ strGo x i e z.st z.op z.acc r = (z'.st, z'.acc) := by
  induction r with
  | nil => exact fun _ _ z => ⟨z, rfl, rfl⟩
  | cons c r ih =>
    intro i e z
    cases e with
    | true => exact ih _ _ _
    | false =>
      show ∃ z', (if c = 92 then escF (strQ x) (i + 1) true z r else escF (strQ x) (i + 1) false (if c = 34 then _ else z) r) = some z' ∧ (if c = 92 then strGo x (i + 1) true z.st z.op z.acc r else if c = 34 then _ else strGo x (i + 1) false z.st z.op z.acc r) = _
      by_cases h1 : c = 92
      · rw [if_pos h1, if_pos h1]; exact ih _ _ _
      · rw [if_neg h1, if_neg h1]
        by_cases h2 : c = 34
        · rw [if_pos h2, if_pos h2]
          obtain ⟨st, op, acc⟩ := z
          cases op with
          | none => exact ih (i + 1) false ⟨st, some i, acc⟩
          | some p => exact ih (i + 1) false ⟨i + 1, none, if st = p then acc else acc ++ [cut x st p]⟩
        · rw [if_neg h2, if_neg h2]; exact ih _ _ _
noncomputable def stok (x : List Nat) (i : Nat) (z : SZ) : Prop := z.st ≤ i ∧ (∀ p, z.op = some p → p ≤ i) ∧ z.acc.length ≤ i
theorem str_close {x : List Nat} {st p i : Nat} {acc : List (List Nat)} (h1 : st ≤ x.length) (h2 : p ≤ x.length) (hx : x.length ≤ 100000) (ha : acc.length ≤ 100000) :
    strB ([some (.str x), some (.int st), some (.int p), some (.ref 0), some (.int i), some (.str [34])], [.list (acc.map .str)]) = some (.next, [some (.str x), some (.int ((i + 1 : Nat))), some .none, some (.ref 0), some (.int i), some (.str [34])], [.list ((if st = p then acc else acc ++ [cut x st p]).map .str)]) := by
  by_cases hp : st = p
  · rw [if_pos hp]
    exact sLast (iIfT (tC rfl rfl rfl) (sLast (iIfF (tC rfl rfl rfl) (sNext (iIfF (tC rfl rfl (congrArg (fun b => some (!b)) (beq_iff_eq.mpr (congrArg Int.ofNat hp)))) rfl) (sNext (iAsg rfl rfl) (sLast (iAsg rfl rfl)))))))
  · rw [if_neg hp, List.map_append]
    exact sLast (iIfT (tC rfl rfl rfl) (sLast (iIfF (tC rfl rfl rfl) (sNext (iIfT (tC rfl rfl (congrArg (fun b => some (!b)) (beq_eq_false_iff_ne.mpr fun q => hp (Int.ofNat.inj q))))
      (sLast (iExpr (rMeth rfl rfl (rOne (r3 rfl rfl rfl (slB h1 h2 hx))) (oApp rfl (len_ok' (by rw [List.length_map]; exact ha))))))) (sNext (iAsg rfl rfl) (sLast (iAsg rfl rfl)))))))
theorem str_B (x : List Nat) (hx : x.length ≤ 90000) : EscB x.length (strQ x) strB [4, 5] (fun z a b => [some (.str x), some (.int z.st), some (opV z.op), some (.ref 0), a, b]) (fun z => [.list (z.acc.map .str)]) (.bool false) (stok x) where
  bd _ _ _ _ _ := rfl
  esc _ _ _ := rfl
  up i z _ h := ⟨Nat.le_succ_of_le h.1, fun p hp => Nat.le_succ_of_le (h.2.1 p hp), Nat.le_succ_of_le h.2.2⟩
  q1 z z' i c hi h hc hq := by
    obtain rfl := Option.some.inj hq
    obtain ⟨st, op, acc⟩ := z
    obtain ⟨h1, h2, h3⟩ := h
    have h3 : acc.length ≤ i := h3
    by_cases h34 : c = 34
    · subst h34
      rw [if_pos rfl]
      cases op with
      | none => exact ⟨rfl, Nat.le_succ_of_le h1, fun p hp => Option.some.inj hp ▸ Nat.le_succ i, Nat.le_succ_of_le h3⟩
      | some p =>
        have hxl : x.length ≤ 100000 := Nat.le_trans hx (by decide)
        refine ⟨str_close (Nat.le_trans h1 (Nat.le_of_lt hi)) (Nat.le_trans (h2 p rfl) (Nat.le_of_lt hi)) hxl (Nat.le_trans h3 (Nat.le_trans (Nat.le_of_lt hi) hxl)), Nat.le_refl _, (fun p hp => nomatch hp), ?_⟩
        show (if st = p then acc else acc ++ [cut x st p]).length ≤ i + 1
        by_cases q : st = p
        · rw [if_pos q]; exact Nat.le_succ_of_le h3
        · rw [if_neg q, List.length_append]; exact Nat.succ_le_succ h3
    · rw [if_neg h34]
      exact ⟨sLast (iIfF (tC rfl rfl (congrArg some (beq1 h34))) rfl), Nat.le_succ_of_le h1, fun p hp => Nat.le_succ_of_le (h2 p hp), Nat.le_succ_of_le h3⟩
  q0 _ _ _ _ hq := nomatch hq
noncomputable def stripP (x : List Nat) : List Nat := if x.contains 34 then (let q := strGo x 0 false 0 none [] x; joinS [] (if q.1 < x.length then q.2 ++ [cut x q.1 x.length] else q.2)) else x
theorem strsOf_map (l : List (List Nat)) : strsOf (l.map .str) = some l := by
  induction l with
  | nil => rfl
  | cons x r ih => exact congrArg (Option.map (x :: ·)) ih
theorem oJoin {k : Nat} {ls : List (List Nat)} {σ : St} (h : σ[k]? = some (.list (ls.map .str))) (hl : lenOk (ls.map List.length).sum = true) : miV .join (.str []) [.ref k] σ = some (.str (joinS [] ls), σ) := by
  show atL σ k _ = _
  unfold atL
  rw [h]
  dsimp only
  rw [strsOf_map]
  exact if_pos hl
theorem str_end {x : List Nat} {st : Nat} {op a b : Option V} {acc : List (List Nat)} (hx : x.length ≤ 90000) (h1 : st ≤ x.length) (h3 : acc.length ≤ x.length) (hj : lenOk (((if st < x.length then acc ++ [cut x st x.length] else acc).map List.length).sum) = true) :
    ∃ σ, strEnd ([some (.str x), some (.int st), op, some (.ref 0), a, b], [.list (acc.map .str)]) = some (.ret (.str (joinS [] (if st < x.length then acc ++ [cut x st x.length] else acc))), [some (.str x), some (.int st), op, some (.ref 0), a, b], σ) := by
  have hxl : x.length ≤ 100000 := Nat.le_trans hx (by decide)
  by_cases h : st < x.length
  · rw [if_pos h] at hj ⊢
    exact ⟨_, sNext (iIfT (tC rfl (rEs (rOne rfl) (oLen (len_ok' hxl))) (congrArg some (decide_eq_true (Int.ofNat_lt.mpr h)))) (sLast (iExpr (rMeth rfl rfl (rOne (r2 rfl rfl (slL h1 hxl))) (oApp rfl (len_ok' (by rw [List.length_map]; exact Nat.le_trans h3 hxl))))))) (sStop (iRet (rMeth rfl rfl (rOne rfl) (oJoin (congrArg (fun l => some (O.list l)) (List.map_append (f := V.str) (l₂ := [cut x st x.length])).symm) hj))))⟩
  · rw [if_neg h] at hj ⊢
    exact ⟨_, sNext (iIfF (tC rfl (rEs (rOne rfl) (oLen (len_ok' hxl))) (congrArg some (decide_eq_false (fun q => h (Int.ofNat_lt.mp q))))) rfl) (sStop (iRet (rMeth rfl rfl (rOne rfl) (oJoin rfl hj))))⟩
theorem str_run {G : GX} {x : List Nat} (hx : x.length ≤ 90000) (hj : lenOk ((((if (strGo x 0 false 0 none [] x).1 < x.length then (strGo x 0 false 0 none [] x).2 ++ [cut x (strGo x 0 false 0 none [] x).1 x.length] else (strGo x 0 false 0 none [] x).2)).map List.length).sum) = true) :
    runF 6 (b_str G) [.str x] = some (.str (stripP x), 0) := by
  by_cases h34 : x.contains 34 = true
  · obtain ⟨z, h1, h2⟩ := strF x x 0 false ⟨0, none, []⟩
    have h := esc_fold (str_B x hx) x (i := 0) (e := false) (z := ⟨0, none, []⟩) (a := none) (b := none) (n := 1000000) (by omega) (by omega) ⟨Nat.le_refl _, (fun p hp => nomatch hp), Nat.le_refl _⟩
    rw [h1] at h
    obtain ⟨a, b, h, h3, _, h5⟩ := h
    rw [Nat.zero_add] at h3 h5
    rw [show strGo x 0 false 0 none [] x = (z.st, z.acc) from h2] at hj
    rw [show stripP x = joinS [] (if z.st < x.length then z.acc ++ [cut x z.st x.length] else z.acc) by unfold stripP; rw [if_pos h34, h2]]
    obtain ⟨σ, h6⟩ := str_end (op := some (opV z.op)) (a := a) (b := b) hx h3 h5 hj
    exact runF_ret (vs := [.str x]) (σ0 := []) (v := .str _) (ids := []) rfl (sNext (iIfF (tC rfl rfl (congrArg (fun b => some (!b)) h34)) rfl) (sNext (iAsg rfl rfl) (sNext (iAsg rfl rfl) (sNext (iAsg rfl rfl) (sNext (iEsc rfl (len_ok' (Nat.le_trans hx (by decide))) h) h6))))) rfl rfl rfl
  · rw [show stripP x = x by unfold stripP; rw [if_neg h34]]
    exact runF_ret (vs := [.str x]) (σ0 := []) (v := .str x) (ids := []) rfl (sStop (iIfT (tC rfl rfl (congrArg (fun b => some (!b)) (Bool.eq_false_iff.mpr h34))) (sStop (iRet rfl)))) rfl rfl rfl
end
section
set_option backward.match.sparseCases false
open PySem
theorem bAnd (a b : Nat) : Builtin.bitAnd (a : Int) (b : Int) = ((a &&& b : Nat) : Int) := by
  unfold Builtin.bitAnd
  rw [decide_eq_true (Int.natCast_nonneg a), decide_eq_true (Int.natCast_nonneg b)]; rfl
theorem bNot2 (x : Int) : Builtin.bitNot (Builtin.bitNot x) = x := by unfold Builtin.bitNot; omega
theorem bOr (a b : Nat) : Builtin.bitOr (a : Int) (b : Int) = ((a ||| b : Nat) : Int) := by
  have h : ∀ c : Nat, ¬ (0 ≤ Builtin.bitNot (c : Int)) := fun c => by unfold Builtin.bitNot; omega
  have : Builtin.bitAnd (Builtin.bitNot (a : Int)) (Builtin.bitNot (b : Int)) = Builtin.bitNot (((Builtin.bitNot (Builtin.bitNot (a : Int))).toNat ||| (Builtin.bitNot (Builtin.bitNot (b : Int))).toNat : Nat) : Int) := by unfold Builtin.bitAnd; rw [decide_eq_false (h a), decide_eq_false (h b)]
  unfold Builtin.bitOr
  rw [this, bNot2, bNot2, bNot2]; rfl
noncomputable abbrev vI (ns : List Nat) : List V := ns.map fun (n : Nat) => .int (n : Int)
noncomputable abbrev tI (ns : List Nat) : List T := ns.map fun (n : Nat) => .int (n : Int)
theorem thaws_I (ns : List Nat) (σ : St) : thaws (tI ns) σ = (vI ns, σ) := by
  induction ns with
  | nil => rfl
  | cons n ns ih => show ((V.int n :: (thaws (tI ns) σ).1, (thaws (tI ns) σ).2) : List V × St) = _; rw [ih]; rfl
theorem frzL_cons {f : V → Option (T × List Nat)} {v : V} {vs : List V} {t : T} {ts : List T} {a b : List Nat} (h : f v = some (t, a)) (h' : frzL f vs = some (ts, b)) : frzL f (v :: vs) = some (t :: ts, a ++ b) := by
  show (match f v, frzL f vs with
    | some (t, a), some (ts, b) => some (t :: ts, a ++ b)
    | _, _ => none) = _
  rw [h, h']
theorem frzL_I (σ : St) (k : Nat) (ns : List Nat) : frzL (frz σ (k + 1)) (vI ns) = some (tI ns, []) := by
  induction ns with
  | nil => rfl
  | cons n ns ih => exact frzL_cons (a := []) (b := []) rfl ih
theorem vsms_I (ns : List Nat) : vsms (vI ns) (vI ns) = true := by
  induction ns with
  | nil => rfl
  | cons n ns ih => exact Bool.and_eq_true_iff.mpr ⟨beq_self_eq_true _, ih⟩
theorem oNext {k j i : Nat} {l : List V} {v : V} {σ : St} (h1 : σ[k]? = some (.it j i)) (h2 : σ[j]? = some (.list l)) (h3 : l[i]? = some v) : biV .next [.ref k] σ = some (v, σ.set k (.it j (i + 1))) := by
  show nextV σ k = _
  unfold nextV
  rw [h1]
  dsimp only
  unfold atL
  rw [h2]
  dsimp only
  rw [h3]; rfl
theorem smallN {a : Nat} (h : a < 2 ^ 64) : small (a : Int) = true := decide_eq_true (by rw [Int.natAbs_natCast]; exact h)
noncomputable def vnB : MS := sCons (sAug 2 .LShift (kV (.int 6))) (sCons (sAsg 1 (kEs (biV .next) (kCons (kVar 0) kNil))) (sCons (sAug 2 .BitOr (k2 (binV .BitAnd) (kVar 1) (kV (.int 63)))) sNil))
noncomputable def vnT : MT := tV (k2 (binV .BitAnd) (kVar 1) (kV (.int 64)))
noncomputable def b_vn (G : GX) : MS := sCons (sAsg 1 (kEs (biV .next) (kCons (kVar 0) kNil))) (sCons (sAsg 2 (k2 (binV .BitAnd) (kVar 1) (kV (.int 63)))) (sCons (sWh vnT vnB) (sCons (sRet (kVar 2)) sNil)))
noncomputable def varGo : Nat → Nat → Nat → List Nat → Option (Nat × Nat)
  | v, b, k, [] => if b &&& 64 = 0 then some (v, k) else none
  | v, b, k, c :: r => if b &&& 64 = 0 then some (v, k) else if v < 2 ^ 57 then varGo (v * 64 ||| c &&& 63) c (k + 1) r else none
noncomputable def varP : List Nat → Option (Nat × Nat)
  | [] => none
  | b :: r => varGo (b &&& 63) b 1 r
theorem vnT_run {v b i : Nat} {ns : List Nat} : vnT [some (.ref 1), some (.int b), some (.int v)] [.list (vI ns), .it 0 i] = some (!(b &&& 64 == 0), [.list (vI ns), .it 0 i]) :=
  tVal (x := .int (Builtin.bitAnd b ((64 : Nat) : Int))) (r2 rfl rfl rfl) (by
    rw [bAnd]
    show some (decide (((b &&& 64 : Nat) : Int) ≠ 0)) = _
    cases (b &&& 64) <;> rfl)
theorem vn_and (c d : Nat) (σ : St) : binV .BitAnd (.int c) (.int (d : Nat)) σ = some (.int ((c &&& d : Nat) : Int), σ) := by
  show some (V.int (Builtin.bitAnd c (d : Nat)), σ) = _
  rw [bAnd]
theorem vn_turn {v b i c : Nat} {ns : List Nat} (hv : v < 2 ^ 57) (hc : ns[i]? = some c) : vnB ([some (.ref 1), some (.int b), some (.int v)], [.list (vI ns), .it 0 i]) = some (.next, [some (.ref 1), some (.int c), some (.int (v * 64 ||| c &&& 63 : Nat))], [.list (vI ns), .it 0 (i + 1)]) := by
  have h1 : augV .LShift (.int v) (.int 6) = some (.int ((v * 64 : Nat) : Int)) := by
    refine (if_pos ?_).trans (congrArg (fun i => some (V.int i)) (show (v : Int) * 2 ^ 6 = _ from (Int.natCast_mul v 64).symm))
    rw [smallN (Nat.lt_trans hv (by decide))]; rfl
  have h2 : augV .BitOr (.int ((v * 64 : Nat) : Int)) (.int ((c &&& 63 : Nat) : Int)) = some (.int ((v * 64 ||| c &&& 63 : Nat) : Int)) := congrArg (fun i => some (V.int i)) (bOr _ _)
  exact sNext (iAug rfl rfl h1 rfl) (sNext (iAsg (rEs (rOne rfl) (oNext rfl rfl (List.getElem?_map.trans (congrArg _ hc)))) rfl) (sLast (iAug rfl (r2 rfl rfl (vn_and c 63 _)) h2 rfl)))
theorem drop_cons {α : Type} {l : List α} {i : Nat} {c : α} {r : List α} (h : l.drop i = c :: r) : l[i]? = some c ∧ l.drop (i + 1) = r := by
  refine ⟨?_, ?_⟩
  · rw [← Nat.add_zero i, ← List.getElem?_drop, h]; rfl
  · rw [← List.drop_drop, h]; rfl
theorem vn_loop (ns r : List Nat) : ∀ {v b i k w k' n : Nat}, ns.drop (i + k) = r → varGo v b k r = some (w, k') → r.length < n →
    ∃ b' : Nat, wh (fun r => vnT r.1 r.2) vnB n ([some (.ref 1), some (.int b), some (.int v)], [.list (vI ns), .it 0 (i + k)]) = some (.next, [some (.ref 1), some (.int b'), some (.int w)], [.list (vI ns), .it 0 (i + k')]) := by
  have stop : ∀ {v b i k w k' n : Nat} {o : Option (Nat × Nat)}, b &&& 64 = 0 → (if b &&& 64 = 0 then some (v, k) else o) = some (w, k') → ∃ b' : Nat, wh (fun r => vnT r.1 r.2) vnB (n + 1) ([some (.ref 1), some (.int b), some (.int v)], [.list (vI ns), .it 0 (i + k)]) = some (.next, [some (.ref 1), some (.int b'), some (.int w)], [.list (vI ns), .it 0 (i + k')]) := fun {v b i k w k' n o} h0 e => by
    rw [if_pos h0] at e
    cases e
    exact ⟨b, wh_end (vnT_run.trans (by rw [h0]; rfl))⟩
  induction r with
  | nil =>
    intro v b i k w k' n hd e h
    cases n with
    | zero => cases h
    | succ n =>
      by_cases h0 : b &&& 64 = 0
      · exact stop h0 e
      · exact nomatch (if_neg h0).symm.trans e
  | cons c r ih =>
    intro v b i k w k' n hd e h
    cases n with
    | zero => cases h
    | succ n =>
      by_cases h0 : b &&& 64 = 0
      · exact stop h0 e
      · have e := (if_neg h0).symm.trans e
        by_cases hv : v < 2 ^ 57
        · obtain ⟨hc, hd'⟩ := drop_cons hd
          obtain ⟨b', g⟩ := ih (v := v * 64 ||| c &&& 63) (b := c) (i := i) (k := k + 1) hd' ((if_pos hv).symm.trans e) (Nat.lt_of_succ_lt_succ h)
          exact ⟨b', wh_next (vnT_run.trans (by rw [beq_eq_false_iff_ne.mpr h0]; rfl)) (vn_turn hv hc) g⟩
        · exact nomatch (if_neg hv).symm.trans e
theorem vn_run {G : GX} {ns : List Nat} {i w k : Nat} (h : varP (ns.drop i) = some (w, k)) (hn : ns.length ≤ 9000) : runF 3 (b_vn G) [.it (tI ns) i] = some (.int w, k) := by
  cases hr : ns.drop i with
  | nil => rw [hr] at h; cases h
  | cons b r =>
    rw [hr] at h
    obtain ⟨hb, hd⟩ := drop_cons hr
    obtain ⟨b', g⟩ := vn_loop ns r (i := i) (n := 10000) hd h (by rw [← hd, List.length_drop]; omega)
    refine runF_ret (vs := [.ref 1]) (σ0 := [.list (vI ns), .it 0 i]) (v := .int w) (σ := [.list (vI ns), .it 0 (i + k)]) (ids := []) ?_ (sNext (iAsg (rEs (rOne rfl) (oNext rfl rfl (List.getElem?_map.trans (congrArg _ hb)))) rfl) (sNext (iAsg (r2 rfl rfl (vn_and b 63 _)) rfl) (sNext (iWh g) (sStop (iRet rfl))))) rfl ?_ ((if_pos (Nat.le_add_right i k)).trans (congrArg some (Nat.add_sub_cancel_left ..)))
    · show (([V.ref ((thaws (tI ns) []).2.length + 1)], (thaws (tI ns) []).2 ++ [.list (thaws (tI ns) []).1, .it (thaws (tI ns) []).2.length i]) : List V × St) = _
      rw [thaws_I]; rfl
    · show ((vsms (vI ns) (vI ns) || _) && ((_ || true) && true)) = true
      rw [vsms_I, Bool.or_true]; rfl
end
section
set_option backward.match.sparseCases false
open PySem
theorem fdivN (a b : Nat) : Int.fdiv (a : Int) (b : Int) = ((a / b : Nat) : Int) := (Int.fdiv_eq_ediv_of_nonneg _ (Int.natCast_nonneg b)).trans rfl
theorem fmodN (a b : Nat) : Int.fmod (a : Int) (b : Int) = ((a % b : Nat) : Int) := (Int.fmod_eq_emod_of_nonneg _ (Int.natCast_nonneg b)).trans rfl
theorem oMod {σ : St} (a b : Nat) (h : b ≠ 0) : binV .Mod (.int a) (.int b) σ = some (.int ((a % b : Nat) : Int), σ) := (if_neg fun q => h (Int.ofNat.inj q)).trans (congrArg (fun i => some (V.int i, σ)) (fmodN a b))
theorem oDiv {σ : St} (a b : Nat) (h : b ≠ 0) (ha : a < 2 ^ 64) : binV .FloorDiv (.int a) (.int b) σ = some (.int ((a / b : Nat) : Int), σ) := (if_neg fun q => q.elim (fun q => h (Int.ofNat.inj q)) fun q => q (smallN ha)).trans (congrArg (fun i => some (V.int i, σ)) (fdivN a b))
noncomputable abbrev vD (es : List (Int × Int)) : List (Int × V) := es.map fun e => (e.1, .int e.2)
noncomputable abbrev tD (es : List (Int × Int)) : List (Int × T) := es.map fun e => (e.1, .int e.2)
theorem hasK_map {α β : Type} (f : α → β) (k : Int) (es : List (Int × α)) : hasK (es.map fun e => (e.1, f e.2)) k = hasK es k := List.any_map
theorem putK_map {α β : Type} (f : α → β) (k : Int) (v : α) (es : List (Int × α)) : putK (es.map fun e => (e.1, f e.2)) k (f v) = (putK es k v).map fun e => (e.1, f e.2) := by
  unfold putK
  rw [hasK_map]
  cases hasK es k with
  | true =>
    rw [if_pos rfl, if_pos rfl, List.map_map, List.map_map]
    refine congrArg (List.map · es) (funext fun e => ?_)
    show (if e.1 = k then (e.1, f v) else (e.1, f e.2)) = ((if e.1 = k then (e.1, v) else e).1, f (if e.1 = k then (e.1, v) else e).2)
    by_cases h : e.1 = k
    · rw [if_pos h, if_pos h]
    · rw [if_neg h, if_neg h]
  | false => exact (List.map_append (l₂ := [(k, v)])).symm
theorem getK_map {α β : Type} (f : α → β) (k : Int) (es : List (Int × α)) : getK (es.map fun e => (e.1, f e.2)) k = (getK es k).map f := by
  unfold getK
  rw [List.find?_map]
  show ((es.find? fun e => decide (e.1 = k)).map _).map _ = _
  cases es.find? fun e => decide (e.1 = k) <;> rfl
theorem putK_le {κ α : Type} [DecidableEq κ] (es : List (κ × α)) (k : κ) (v : α) : (putK es k v).length ≤ es.length + 1 := by
  unfold putK
  cases hasK es k with
  | true => exact Nat.le_succ_of_le (Nat.le_of_eq (List.length_map ..))
  | false => exact Nat.le_of_eq List.length_append
theorem intsOf_I (ns : List Nat) : intsOf (vI ns) = some (ns.map fun (n : Nat) => (n : Int)) := by
  induction ns with
  | nil => rfl
  | cons n ns ih => exact congrArg (Option.map ((n : Int) :: ·)) ih
theorem cont_I (k : Nat) (ns : List Nat) : (ns.map fun (n : Nat) => (n : Int)).contains (k : Int) = ns.contains k := by
  induction ns with
  | nil => rfl
  | cons n ns ih =>
    rw [List.map_cons, List.contains_cons, List.contains_cons, ih]
    exact congrArg (· || _) (Bool.eq_iff_iff.mpr ⟨fun h => beq_iff_eq.mpr (Int.ofNat.inj (beq_iff_eq.mp h)), fun h => beq_iff_eq.mpr (congrArg Int.ofNat (beq_iff_eq.mp h))⟩)
section
variable {σ σ' : St} {n k j i : Nat} {vs : List V} {ts : List T} {ids : List Nat}
theorem frz_list (h : σ[k]? = some (.list vs)) (h' : frzL (frz σ n) vs = some (ts, ids)) : frz σ (n + 1) (.ref k) = some (.list ts, ids ++ [k]) := by
  show (match σ[k]? with
    | some o => frzO (frz σ n) σ k o
    | none => none) = _
  rw [h]
  show (frzL (frz σ n) vs).map _ = _
  rw [h']; rfl
theorem frz_dI {es : List (Int × V)} {et : List (Int × T)} (h : σ[k]? = some (.dI es)) (h' : frzD (frz σ n) es = some (et, ids)) : frz σ (n + 1) (.ref k) = some (.dI et, ids ++ [k]) := by
  show (match σ[k]? with
    | some o => frzO (frz σ n) σ k o
    | none => none) = _
  rw [h]
  show (frzD (frz σ n) es).map _ = _
  rw [h']; rfl
theorem frz_dS {es : List (List Nat × V)} {et : List (List Nat × T)} (h : σ[k]? = some (.dS es)) (h' : frzD (frz σ n) es = some (et, ids)) : frz σ (n + 1) (.ref k) = some (.dS et, ids ++ [k]) := by
  show (match σ[k]? with
    | some o => frzO (frz σ n) σ k o
    | none => none) = _
  rw [h]
  show (frzD (frz σ n) es).map _ = _
  rw [h']; rfl
theorem frz_it (h : σ[k]? = some (.it j i)) (h1 : σ[j]? = some (.list vs)) (h' : frzL (frz σ n) vs = some (ts, ids)) : frz σ (n + 1) (.ref k) = some (.it ts i, ids ++ [j, k]) := by
  show (match σ[k]? with
    | some o => frzO (frz σ n) σ k o
    | none => none) = _
  rw [h]
  show atL σ j _ = _
  unfold atL
  rw [h1]
  show (frzL (frz σ n) vs).map _ = _
  rw [h']; rfl
theorem frz_tup (h' : frzL (frz σ n) vs = some (ts, ids)) : frz σ (n + 1) (.tup vs) = some (.tup ts, ids) := by
  show (frzL (frz σ n) vs).map _ = _
  rw [h']; rfl
theorem frzD_cons {κ : Type} {f : V → Option (T × List Nat)} {x : κ} {v : V} {vs : List (κ × V)} {t : T} {ts : List (κ × T)} {a b : List Nat} (h : f v = some (t, a)) (h' : frzD f vs = some (ts, b)) : frzD f ((x, v) :: vs) = some ((x, t) :: ts, a ++ b) := by
  unfold frzD
  rw [h, h']
theorem frzD_D (es : List (Int × Int)) : frzD (frz σ (n + 1)) (vD es) = some (tD es, []) := by
  induction es with
  | nil => rfl
  | cons e es ih =>
    exact frzD_cons (a := []) (b := []) rfl ih
theorem call_of {G : GX} {f d : Nat} {t : T} (h : frzL (frz σ 8) vs = some (ts, ids)) (hn : ids.Nodup) (hF : G.F f ts = some (t, d)) (hd : drawS d vs σ = some σ') : callF G f vs σ = some (thaw t σ') := by
  unfold callF callT
  rw [h]
  dsimp only
  rw [if_pos (decide_eq_true hn), hF]
  dsimp only
  rw [hd]; rfl
end
theorem callF_it {G : GX} {f w k i : Nat} {ns : List Nat} {σ : St} (h : G.F f [.it (tI ns) i] = some (.int w, k)) (h0 : σ[0]? = some (.list (vI ns))) (h1 : σ[1]? = some (.it 0 i)) (hk : 0 < k) : callF G f [.ref 1] σ = some (.int w, σ.set 1 (.it 0 (i + k))) := by
  obtain ⟨m, rfl⟩ := Nat.exists_eq_succ_of_ne_zero (Nat.ne_of_gt hk)
  refine call_of (t := .int w) (ids := [0, 1]) (frzL_cons (a := [0, 1]) (b := []) (frz_it (ids := []) h1 h0 (frzL_I σ 6 ns)) rfl) (by decide) h ?_
  show (match σ[1]? with
    | some (.it j i) => some (σ.set 1 (.it j (i + (m + 1))))
    | _ => none) = _
  rw [h1]
noncomputable def Yl (σ : St) : List V → It → Prop
  | [], it => nextIt it σ = some none
  | v :: l, it => ∃ it', nextIt it σ = some (some (v, it')) ∧ Yl σ l it'
theorem yl_vs {σ : St} (l : List V) : Yl σ l (.vs l) := by
  induction l with
  | nil => rfl
  | cons v l ih => exact ⟨_, rfl, ih⟩
theorem yl_seq {σ : St} {k : Nat} {l : List V} (h : σ[k]? = some (.list l)) (r : List V) : ∀ {i : Nat}, l.drop i = r → Yl σ r (.seq k i) := by
  have hn : ∀ i, nextIt (.seq k i) σ = some ((l[i]?).map fun v => (v, .seq k (i + 1))) := fun i => by
    show atL σ k _ = _
    unfold atL
    rw [h]
  induction r with
  | nil => intro i hd; exact (hn i).trans (by rw [List.getElem?_eq_none (List.drop_eq_nil_iff.mp hd)]; rfl)
  | cons v r ih => intro i hd; exact ⟨_, (hn i).trans (by rw [(drop_cons hd).1]; rfl), ih (drop_cons hd).2⟩
theorem yl_dk {σ : St} {k : Nat} {es : List (Int × V)} (h : σ[k]? = some (.dI es)) (r : List (Int × V)) : ∀ {i : Nat}, es.drop i = r → Yl σ (r.map fun e => .int e.1) (.dk k es.length i) := by
  have hn : ∀ i, nextIt (.dk k es.length i) σ = some ((es[i]?).map fun e => (.int e.1, .dk k es.length (i + 1))) := fun i => by
    show atI σ k _ = _
    unfold atI
    rw [h]
    exact if_pos rfl
  induction r with
  | nil => intro i hd; exact (hn i).trans (by rw [List.getElem?_eq_none (List.drop_eq_nil_iff.mp hd)]; rfl)
  | cons v r ih => intro i hd; exact ⟨_, (hn i).trans (by rw [(drop_cons hd).1]; rfl), ih (drop_cons hd).2⟩
theorem cl_list {ρf : Env1} {X : Nat} {ifs : MT} {elt : ME} {R : V → Env1} {p : V → Bool} {g : V → V} {σ : St} (hs : ∀ v, setL ρf X v = some (R v)) (l : List V) : ∀ {acc : List V} {n : Nat} {it : It}, Yl σ l it → (∀ v ∈ l, ifs (R v) σ = some (p v, σ) ∧ (p v = true → elt (R v) σ = some (g v, σ))) → acc.length + l.length ≤ 100001 → l.length < n →
    cloop (turn ρf X ifs (gL elt)) n it σ acc = some (acc ++ (l.filter p).map g, σ) := by
  induction l with
  | nil =>
    intro acc n it hy _ _ hn
    cases n with
    | zero => cases hn
    | succ n =>
      unfold cloop
      rw [show nextIt it σ = some none from hy]
      exact congrArg (fun l => some (l, σ)) (List.append_nil acc).symm
  | cons v l ih =>
    intro acc n it hy h hl hn
    rw [List.length_cons] at hl hn
    cases n with
    | zero => cases hn
    | succ n =>
      obtain ⟨it', hy1, hy2⟩ := hy
      obtain ⟨h1, h2⟩ := h v List.mem_cons_self
      have h' := fun v hv => h v (List.mem_cons_of_mem _ hv)
      have nx : ∀ {acc' : List V}, turn ρf X ifs (gL elt) v σ acc = some (acc', σ) → acc'.length + l.length ≤ 100001 → cloop (turn ρf X ifs (gL elt)) (n + 1) it σ acc = some (acc' ++ (l.filter p).map g, σ) := fun {acc'} h3 h4 => by
        unfold cloop
        rw [hy1]
        dsimp only
        rw [h3]
        exact ih hy2 h' h4 (Nat.lt_of_succ_lt_succ hn)
      have ht : turn ρf X ifs (gL elt) v σ acc = (match p v with
          | true => gL elt (R v) σ acc
          | false => some (acc, σ)) := by
        unfold turn
        rw [hs v]
        exact thn_eq h1
      cases hp : p v with
      | true =>
        rw [hp] at ht
        rw [List.filter_cons_of_pos hp, List.map_cons, List.append_cons]
        exact nx (ht.trans ((thn_eq (h2 hp)).trans (if_pos (len_ok' (by omega))))) (by rw [List.length_append, List.length_singleton]; omega)
      | false =>
        rw [hp] at ht
        rw [List.filter_cons_of_neg (by rw [hp]; decide)]
        exact nx ht (by omega)
theorem lc_run {fr : List (Nat × Nat)} {nv X : Nat} {it elt : ME} {ifs : MT} {ρ : Env1} {σ σ1 : St} {x : V} {i : It} {l : List V} {R : V → Env1} {p : V → Bool} {g : V → V} (hi : it ρ σ = some (x, σ1)) (hm : mkIter σ1 x = some i) (hy : Yl σ1 l i) (hl : l.length < 10000) (hs : ∀ v, setL (frame ρ fr nv) X v = some (R v))
    (h : ∀ v ∈ l, ifs (R v) σ1 = some (p v, σ1) ∧ (p v = true → elt (R v) σ1 = some (g v, σ1))) : kLcomp fr nv X it ifs elt ρ σ = some (.ref σ1.length, σ1 ++ [.list ((l.filter p).map g)]) := by
  refine (thn_eq hi).trans ?_
  dsimp only
  rw [hm]
  refine (thn_eq (cl_list hs l (acc := []) hy h (by rw [List.length_nil]; omega) hl)).trans ?_
  rw [List.nil_append]
  exact if_pos (len_ok' (Nat.le_trans (Nat.le_of_eq (List.length_map ..)) (Nat.le_trans (List.length_filter_le ..) (by omega))))
theorem lc_map {fr : List (Nat × Nat)} {nv X : Nat} {it elt : ME} {ρ : Env1} {σ σ1 : St} {x : V} {i : It} {l : List V} {R : V → Env1} {g : V → V} (hi : it ρ σ = some (x, σ1)) (hm : mkIter σ1 x = some i) (hy : Yl σ1 l i) (hl : l.length < 10000) (hs : ∀ v, setL (frame ρ fr nv) X v = some (R v))
    (h : ∀ v ∈ l, elt (R v) σ1 = some (g v, σ1)) : kLcomp fr nv X it (tNil true) elt ρ σ = some (.ref σ1.length, σ1 ++ [.list (l.map g)]) := by
  rw [lc_run (p := fun _ => true) hi hm hy hl hs fun v hv => ⟨rfl, fun _ => h v hv⟩, List.filter_eq_self.mpr fun _ _ => rfl]
end
section
set_option backward.match.sparseCases false
open PySem
noncomputable def spB : MS := sCons (sIf (tCmp .Lt (k2 (binV .Mod) (kVar 4) (kV (.int 64))) (kV (.int 6))) (sCons (sSub (kVar 3) (k2 (binV .Sub) (k2 (binV .Mod) (kVar 4) (kV (.int 64))) (kV (.int 1))) (k2 (binV .Sub) (kEs (biV .len) (kCons (kVar 2) kNil)) (kV (.int 1)))) sNil) sNil) (sCons (sAsg 4 (k2 (binV .FloorDiv) (kVar 4) (kV (.int 64)))) sNil)
noncomputable def spT : MT := tCmp .Gt (kVar 4) (kV (.int 0))
noncomputable def rdB (G : GX) : MS := sCons (sAsg 4 (kEs (callF G 3) (kCons (kVar 1) kNil))) (sCons (sExpr (kMeth .append (kVar 2) (kCons (k2 (binV .Mod) (kVar 4) (kV (.int 64))) kNil))) (sCons (sAsg 4 (k2 (binV .FloorDiv) (kVar 4) (kV (.int 64)))) (sCons (sWh spT spB) sNil)))
noncomputable def rdT : MT := tCmp .NotIn (kV (.int 59)) (kVar 2)
noncomputable def rdE : ME := kEs (biV .ord) (kCons (kVar 1) kNil)
noncomputable def b_rd (G : GX) : MS := sCons (sAsg 1 (kEs (biV .iter) (kCons (kLcomp [] 2 1 (kVar 0) (tNil true) rdE) kNil))) (sCons (sAsg 2 (kEs fList kNil)) (sCons (sAsg 3 (kDict0 false)) (sCons (sWh rdT (rdB G)) (sCons (sRet (kEs fTup (kCons (k2 (fSlR G) (kVar 2) (kNeg (kV (.int 1)))) (kCons (kVar 3) kNil)))) sNil))))
noncomputable def spotGo : Nat → Nat → Int → List (Int × Int) → List (Int × Int)
  | 0, _, _, sp => sp
  | f + 1, n, l, sp => if n = 0 then sp else spotGo f (n / 64) l (if n % 64 < 6 then putK sp (((n % 64 : Nat) : Int) - 1) l else sp)
theorem sp_if_le {n : Nat} {l : Int} {sp : List (Int × Int)} : (if n % 64 < 6 then putK sp (((n % 64 : Nat) : Int) - 1) l else sp).length ≤ sp.length + 1 := by
  by_cases h : n % 64 < 6
  · rw [if_pos h]; exact putK_le _ _ _
  · rw [if_neg h]; exact Nat.le_succ _
theorem oLenL {k : Nat} {l : List V} {σ : St} (h : σ[k]? = some (.list l)) (hl : lenOk l.length = true) : biV .len [.ref k] σ = some (.int l.length, σ) := by
  show atLI σ k _ _ = _
  unfold atLI
  rw [h]
  exact if_pos hl
theorem oPutI {k : Nat} {es : List (Int × V)} {i : Int} {v : V} {σ : St} (h : σ[k]? = some (.dI es)) (hl : lenOk es.length = true) : storeV σ (.ref k) (.int i) v = some (σ.set k (.dI (putK es i v))) := by
  show atLI σ k _ _ = _
  unfold atLI
  rw [h]
  exact if_pos hl
theorem sp_turn {x : List Nat} {n i : Nat} {ns sg : List Nat} {sp : List (Int × Int)} (hn : n < 2 ^ 64) (hs : sg.length ≤ 100000) (hp : sp.length ≤ 100000) :
    spB ([some (.str x), some (.ref 1), some (.ref 2), some (.ref 3), some (.int n)], [.list (vI ns), .it 0 i, .list (vI sg), .dI (vD sp)]) =
      some (.next, [some (.str x), some (.ref 1), some (.ref 2), some (.ref 3), some (.int (n / 64 : Nat))], [.list (vI ns), .it 0 i, .list (vI sg), .dI (vD (if n % 64 < 6 then putK sp (((n % 64 : Nat) : Int) - 1) ((sg.length : Int) - 1) else sp))]) := by
  have hm : ∀ σ : St, k2 (binV .Mod) (kVar 4) (kV (.int 64)) [some (.str x), some (.ref 1), some (.ref 2), some (.ref 3), some (.int n)] σ = some (.int ((n % 64 : Nat) : Int), σ) := fun σ => r2 rfl rfl (oMod n 64 (by decide))
  by_cases h : n % 64 < 6
  · rw [if_pos h, show vD (putK sp (((n % 64 : Nat) : Int) - 1) ((sg.length : Int) - 1)) = _ from (putK_map V.int _ _ sp).symm]
    have hl := oLenL (k := 2) (l := vI sg) (σ := [.list (vI ns), .it 0 i, .list (vI sg), .dI (vD sp)]) rfl (len_ok' (by rw [List.length_map]; exact hs))
    rw [List.length_map] at hl
    exact sNext (iIfT (tC (hm _) rfl (congrArg some (decide_eq_true (Int.ofNat_lt.mpr h)))) (sLast (iSub (r2 (rEs (rOne rfl) hl) rfl rfl) rfl (r2 (hm _) rfl rfl) (oPutI rfl (len_ok' (by rw [List.length_map]; exact hp))))))
      (sLast (iAsg (r2 rfl rfl (oDiv n 64 (by decide) hn)) rfl))
  · rw [if_neg h]
    exact sNext (iIfF (tC (hm _) rfl (congrArg some (decide_eq_false fun q => h (Int.ofNat_lt.mp q)))) rfl) (sLast (iAsg (r2 rfl rfl (oDiv n 64 (by decide) hn)) rfl))
theorem sp_loop {x : List Nat} {i : Nat} {ns sg : List Nat} (hs : sg.length ≤ 100000) (f : Nat) : ∀ {n : Nat} {sp : List (Int × Int)} {m : Nat}, n < 64 ^ f → n < 2 ^ 64 → f < m → sp.length + f ≤ 100000 →
    wh (fun r => spT r.1 r.2) spB m ([some (.str x), some (.ref 1), some (.ref 2), some (.ref 3), some (.int n)], [.list (vI ns), .it 0 i, .list (vI sg), .dI (vD sp)]) =
      some (.next, [some (.str x), some (.ref 1), some (.ref 2), some (.ref 3), some (.int 0)], [.list (vI ns), .it 0 i, .list (vI sg), .dI (vD (spotGo f n ((sg.length : Int) - 1) sp))]) := by
  have stop : ∀ {sp : List (Int × Int)} {m f : Nat}, wh (fun r => spT r.1 r.2) spB (m + 1) ([some (.str x), some (.ref 1), some (.ref 2), some (.ref 3), some (.int ((0 : Nat) : Int))], [.list (vI ns), .it 0 i, .list (vI sg), .dI (vD sp)]) =
      some (.next, [some (.str x), some (.ref 1), some (.ref 2), some (.ref 3), some (.int 0)], [.list (vI ns), .it 0 i, .list (vI sg), .dI (vD sp)]) := wh_end rfl
  induction f with
  | zero =>
    intro n sp m hf hn h hl
    obtain ⟨m, rfl⟩ := Nat.exists_eq_succ_of_ne_zero (Nat.ne_of_gt h)
    obtain rfl : n = 0 := Nat.lt_one_iff.mp hf
    exact stop (f := 0)
  | succ f ih =>
    intro n sp m hf hn h hl
    obtain ⟨m, rfl⟩ := Nat.exists_eq_succ_of_ne_zero (Nat.ne_of_gt (Nat.lt_of_le_of_lt (Nat.zero_le _) h))
    by_cases h0 : n = 0
    · subst h0
      exact stop (f := 0)
    · rw [show spotGo (f + 1) n ((sg.length : Int) - 1) sp = _ from if_neg h0]
      have hd : decide ((n : Int) > 0) = true := decide_eq_true (Int.ofNat_lt.mpr (Nat.pos_of_ne_zero h0))
      exact wh_next (tC rfl rfl (congrArg some hd)) (sp_turn hn hs (by omega)) (ih (Nat.div_lt_of_lt_mul (by rw [Nat.pow_succ, Nat.mul_comm] at hf; exact hf)) (Nat.lt_of_le_of_lt (Nat.div_le_self ..) hn) (Nat.lt_of_succ_lt_succ h) (Nat.le_trans (Nat.add_le_add_right sp_if_le f) (by omega)))
theorem spotGo_len (f : Nat) : ∀ (n : Nat) (l : Int) (sp : List (Int × Int)), (spotGo f n l sp).length ≤ sp.length + f := by
  induction f with
  | zero => exact fun _ _ _ => Nat.le_refl _
  | succ f ih =>
    intro n l sp
    by_cases h0 : n = 0
    · rw [show spotGo (f + 1) n l sp = _ from if_pos h0]; exact Nat.le_add_right _ _
    · rw [show spotGo (f + 1) n l sp = _ from if_neg h0]
      exact Nat.le_trans (ih _ _ _) (Nat.le_trans (Nat.add_le_add_right sp_if_le f) (by omega))
noncomputable def readGo : Nat → List Nat → List Nat → List (Int × Int) → Option (List Nat × List (Int × Int))
  | 0, _, _, _ => none
  | f + 1, r, sg, sp => if sg.contains 59 then some (sg, sp) else match varP r with
    | none => none
    | some (v, k) => if v < 2 ^ 64 then readGo f (r.drop k) (sg ++ [v % 64]) (spotGo 11 (v / 64) sg.length sp) else none
theorem varGo_le (r : List Nat) : ∀ {v b k w k' : Nat}, varGo v b k r = some (w, k') → k ≤ k' := by
  have stop : ∀ {v k w k' : Nat}, some (v, k) = some (w, k') → k ≤ k' := fun h => by cases h; exact Nat.le_refl _
  induction r with
  | nil =>
    intro v b k w k' h
    by_cases h0 : b &&& 64 = 0
    · exact stop ((if_pos h0).symm.trans h)
    · exact nomatch (if_neg h0).symm.trans h
  | cons c r ih =>
    intro v b k w k' h
    by_cases h0 : b &&& 64 = 0
    · exact stop ((if_pos h0).symm.trans h)
    · have h := (if_neg h0).symm.trans h
      by_cases h1 : v < 2 ^ 57
      · exact Nat.le_of_succ_le (ih ((if_pos h1).symm.trans h))
      · exact nomatch (if_neg h1).symm.trans h
theorem varP_pos {r : List Nat} {w k : Nat} (h : varP r = some (w, k)) : 0 < k := by
  cases r with
  | nil => cases h
  | cons b r => exact varGo_le r h
noncomputable def IsVarint (G : GX) : Prop := ∀ (ns : List Nat) (i w k : Nat), varP (ns.drop i) = some (w, k) → ns.length ≤ 9000 → G.F 3 [.it (tI ns) i] = some (.int w, k)
theorem rdT_run {σ : St} {ρ : Env1} {sg : List Nat} (h1 : kVar 2 ρ σ = some (.ref 2, σ)) (h : σ[2]? = some (.list (vI sg))) : rdT ρ σ = some (!(sg.contains 59), σ) := by
  refine tC rfl h1 ?_
  show Option.map _ (atL σ 2 _) = _
  unfold atL
  rw [h]
  show Option.map _ (Option.map _ (intsOf (vI sg))) = _
  rw [intsOf_I]
  exact congrArg (fun b => some (!b)) (cont_I 59 sg)
theorem rd_turn {G : GX} (hG : IsVarint G) {x : List Nat} {v k i : Nat} {ns sg : List Nat} {sp : List (Int × Int)} {j4 : Option V} (hv : varP (ns.drop i) = some (v, k)) (hn : ns.length ≤ 9000) (hv2 : v < 2 ^ 64) (hs : sg.length ≤ 9000) (hp : sp.length ≤ 99000) :
    rdB G ([some (.str x), some (.ref 1), some (.ref 2), some (.ref 3), j4], [.list (vI ns), .it 0 i, .list (vI sg), .dI (vD sp)]) =
      some (.next, [some (.str x), some (.ref 1), some (.ref 2), some (.ref 3), some (.int 0)], [.list (vI ns), .it 0 (i + k), .list (vI (sg ++ [v % 64])), .dI (vD (spotGo 11 (v / 64) sg.length sp))]) := by
  have hl := sp_loop (x := x) (i := i + k) (ns := ns) (sg := sg ++ [v % 64]) (by rw [List.length_append, List.length_singleton]; omega) 11 (n := v / 64) (sp := sp) (m := 10000) (by omega) (by omega) (by decide) (by omega)
  rw [show (((sg ++ [v % 64]).length : Nat) : Int) - 1 = (sg.length : Int) by rw [List.length_append, List.length_singleton]; omega] at hl
  refine sNext (iAsg (rEs (rOne rfl) (callF_it (hG ns i v k hv hn) rfl rfl (varP_pos hv))) rfl) (sNext (iExpr (rMeth rfl rfl (rOne (r2 rfl rfl (oMod v 64 (by decide)))) (oApp (l := vI sg) rfl (len_ok' (by rw [List.length_map]; omega))))) (sNext (iAsg (r2 rfl rfl (oDiv v 64 (by decide) hv2)) rfl) (sLast (iWh ?_))))
  rw [show vI (sg ++ [v % 64]) = vI sg ++ [.int ((v % 64 : Nat) : Int)] from List.map_append] at hl ⊢
  exact hl
theorem rd_loop {G : GX} (hG : IsVarint G) {x ns : List Nat} (hn : ns.length ≤ 9000) (f : Nat) : ∀ {r : List Nat} {i : Nat} {sg : List Nat} {sp : List (Int × Int)} {sg' : List Nat} {sp' : List (Int × Int)} {m : Nat} {j4 : Option V}, ns.drop i = r → readGo f r sg sp = some (sg', sp') → f ≤ m → sg.length + f ≤ 9000 → sp.length + 11 * f ≤ 99000 →
    ∃ j i', wh (fun r => rdT r.1 r.2) (rdB G) m ([some (.str x), some (.ref 1), some (.ref 2), some (.ref 3), j4], [.list (vI ns), .it 0 i, .list (vI sg), .dI (vD sp)]) =
      some (.next, [some (.str x), some (.ref 1), some (.ref 2), some (.ref 3), j], [.list (vI ns), .it 0 i', .list (vI sg'), .dI (vD sp')]) := by
  induction f with
  | zero => exact fun _ h => nomatch h
  | succ f ih =>
    intro r i sg sp sg' sp' m j4 hd h hm hs hp
    obtain ⟨m, rfl⟩ := Nat.exists_eq_succ_of_ne_zero (Nat.ne_of_gt (Nat.lt_of_lt_of_le (Nat.succ_pos f) hm))
    have h : (if sg.contains 59 = true then some (sg, sp) else match varP r with
      | none => none
      | some (v, k) => if v < 2 ^ 64 then readGo f (r.drop k) (sg ++ [v % 64]) (spotGo 11 (v / 64) sg.length sp) else none) = some (sg', sp') := h
    cases hc : sg.contains 59 with
    | true =>
      rw [hc, if_pos rfl] at h
      cases h
      exact ⟨j4, i, wh_end ((rdT_run rfl rfl).trans (by rw [hc]; rfl))⟩
    | false =>
      rw [hc, if_neg (by decide)] at h
      cases hv : varP r with
      | none => rw [hv] at h; cases h
      | some q =>
        obtain ⟨v, k⟩ := q
        rw [hv] at h
        have hv2 : v < 2 ^ 64 := ite_c' h
        have h := (if_pos hv2).symm.trans h
        subst hd
        rw [List.drop_drop] at h
        obtain ⟨j, i', g⟩ := ih (i := i + k) (m := m) (j4 := some (.int 0)) rfl h (Nat.le_of_succ_le_succ hm) (by rw [List.length_append, List.length_singleton]; omega) (Nat.le_trans (Nat.add_le_add_right (spotGo_len 11 (v / 64) sg.length sp) _) (by omega))
        exact ⟨j, i', wh_next ((rdT_run rfl rfl).trans (by rw [hc]; rfl)) (rd_turn hG hv hn hv2 (by omega) (by omega)) g⟩
noncomputable def ordV : V → V
  | .str [c] => .int c
  | v => v
theorem cut_dropLast (l : List V) : cut l 0 (bnd l.length (-1)) = l.dropLast := by
  rw [show bnd l.length (-1) = l.length - 1 from (if_pos (by decide)).trans (by omega), List.dropLast_eq_take]; rfl
theorem oSlR {G : GX} {k : Nat} {i : Int} {l : List V} {σ : St} (h : σ[k]? = some (.list l)) (hl : lenOk l.length = true) (hi : i.natAbs ≤ 1000000) : fSlR G (.ref k) (.int i) σ = some (.ref σ.length, σ ++ [.list (cut l 0 (bnd l.length i))]) := by
  show atL σ k _ = _
  unfold atL
  rw [h]
  dsimp only
  unfold slice1
  rw [if_pos hl, show bndV l.length (some (.int i)) l.length = some (bnd l.length i) from if_pos (decide_eq_true hi)]; rfl
theorem rd_run {G : GX} (hG : IsVarint G) {x sg : List Nat} {sp : List (Int × Int)} (hx : x.length ≤ 9000) (h : readGo 100 x [] [] = some (sg, sp)) (hs : sg.length ≤ 9000) : runF 5 (b_rd G) [.str x] = some (.tup [.list (tI sg.dropLast), .dI (tD sp)], 0) := by
  obtain ⟨j, i', g⟩ := rd_loop hG (x := x) hx 100 (i := 0) (m := 10000) (j4 := none) rfl h (by decide) (by decide) (by decide)
  have ho : kLcomp [] 2 1 (kVar 0) (tNil true) rdE [some (.str x), none, none, none, none] [] = some (.ref 0, [.list (vI x)]) := by
    rw [lc_map (g := ordV) (l := x.map fun c => .str [c]) (σ1 := []) (x := .str x) rfl rfl (yl_vs _) (by rw [List.length_map]; omega) (fun v => rfl) fun v hv => ?_]
    · rw [List.map_map]; rfl
    · obtain ⟨c, _, rfl⟩ := List.mem_map.mp hv
      rfl
  have hsl := oSlR (G := G) (k := 2) (i := -1) (l := vI sg) (σ := [.list (vI x), .it 0 i', .list (vI sg), .dI (vD sp)]) rfl (len_ok' (by rw [List.length_map]; omega)) (by decide)
  rw [cut_dropLast, ← List.map_dropLast] at hsl
  exact runF_ret (vs := [.str x]) (σ0 := []) (ids := [4] ++ ([3] ++ [])) rfl (sNext (iAsg (rEs (rOne ho) rfl) rfl) (sNext (iAsg rfl rfl) (sNext (iAsg rfl rfl) (sNext (iWh g) (sStop (iRet (rEs (rCons (r2 rfl rfl hsl) (rOne rfl)) rfl)))))))
    (frz_tup (frzL_cons (frz_list (ids := []) rfl (frzL_I _ 5 sg.dropLast)) (frzL_cons (frz_dI (ids := []) rfl (frzD_D sp)) rfl))) rfl rfl
end
section
set_option backward.match.sparseCases false
open PySem
noncomputable def nmE : ME := k2 (binV .Mod) (kVar 1) (k2 (binV .Pow) (kV (.int 10)) (kV (.int 6)))
noncomputable def b_nm (G : GX) : MS := sCons (sAsg 1 (kLcomp [] 2 1 (k2 (fSlR G) (kVar 0) (kV (.int 4))) (tNil true) nmE)) (sCons (sRet (k2 (binV .Add) (kVar 1) (k2 fSlL (kEs fList (kCons (kV (.int 8)) (kCons (kV (.int 1)) (kCons (kV (.int 1)) (kCons (kV (.int 22)) kNil))))) (kEs (biV .len) (kCons (kVar 1) kNil))))) sNil)
noncomputable def numsP (ns : List Int) : List Int := ((ns.take 4).map fun x => Int.fmod x 1000000) ++ [8, 1, 1, 22].drop ((ns.take 4).map fun x => Int.fmod x 1000000).length
theorem frzL_Z (σ : St) (k : Nat) (ns : List Int) : frzL (frz σ (k + 1)) (ns.map .int) = some (ns.map .int, []) := by
  induction ns with
  | nil => rfl
  | cons n ns ih => exact frzL_cons (a := []) (b := []) rfl ih
noncomputable def modV : V → V
  | .int i => .int (Int.fmod i 1000000)
  | v => v
theorem oSlA {G : GX} {ns : List Int} {σ : St} (h : G.ro scrA = some ns) (hl : ns.length ≤ 63) : fSlR G (.adr scrA) (.int 4) σ = some (.ref σ.length, σ ++ [O.list ((ns.take 4).map .int)]) := by
  show (match G.ro scrA with
    | some ns => slice1 ns.length none (some (.int 4)) fun _ k => (V.ref σ.length, σ ++ [O.list ((cut ns 0 k).map .int)])
    | none => none) = _
  rw [h]
  dsimp only
  unfold slice1
  rw [if_pos (len_ok' (Nat.le_trans hl (by decide)))]
  show some (V.ref σ.length, σ ++ [O.list ((ns.take (min 4 ns.length)).map .int)]) = _
  rw [← List.take_eq_take_min]
theorem oAddL {j k : Nat} {x y : List V} {σ : St} (h1 : σ[j]? = some (.list x)) (h2 : σ[k]? = some (.list y)) (hl : lenOk (x.length + y.length) = true) : binV .Add (.ref j) (.ref k) σ = some (.ref σ.length, σ ++ [O.list (x ++ y)]) := by
  show atL σ j _ = _
  unfold atL
  rw [h1]
  show atL σ k _ = _
  unfold atL
  rw [h2]
  exact if_pos hl
theorem oSlLL {k i : Nat} {l : List V} {σ : St} (h : σ[k]? = some (.list l)) (hl : l.length ≤ 100000) (hi : i ≤ l.length) : fSlL (.ref k) (.int i) σ = some (.ref σ.length, σ ++ [O.list (l.drop i)]) := by
  show atL σ k _ = _
  unfold atL
  rw [h]
  dsimp only
  unfold slice1
  rw [if_pos (len_ok' hl), bndV_nat hi hl]
  show some (V.ref σ.length, σ ++ [O.list ((l.take l.length).drop i)]) = _
  rw [List.take_length]
theorem nm_run {G : GX} {ns : List Int} (hro : G.ro scrA = some ns) (hl : ns.length ≤ 63) : runF 2 (b_nm G) [.adr scrA] = some (.list ((numsP ns).map .int), 0) := by
  have h4 : ((ns.take 4).map (fun x => Int.fmod x 1000000)).length ≤ 4 := by rw [List.length_map]; exact List.length_take_le ..
  have hc := lc_map (fr := []) (nv := 2) (X := 1) (elt := nmE) (ρ := [some (.adr scrA), none]) (σ := []) (g := modV) (r2 (a := kVar 0) (b := kV (.int 4)) rfl rfl (oSlA (σ := []) hro hl)) rfl (yl_seq (l := (ns.take 4).map .int) rfl _ rfl) (by rw [List.drop_zero, List.length_map, ← List.length_map (f := fun x => Int.fmod x 1000000)]; omega) (fun v => rfl) fun v hv => by
    obtain ⟨i, _, rfl⟩ := List.mem_map.mp hv
    rfl
  rw [List.drop_zero, List.map_map, show (ns.take 4).map (modV ∘ V.int) = ((ns.take 4).map (fun x => Int.fmod x 1000000)).map V.int by rw [List.map_map]; rfl] at hc
  unfold numsP
  generalize (ns.take 4).map (fun x => Int.fmod x 1000000) = ms at h4 hc ⊢
  have hd := oSlLL (k := 2) (i := ms.length) (l := ([8, 1, 1, 22] : List Int).map V.int) (σ := [O.list ((ns.take 4).map .int), .list (ms.map .int), .list (([8, 1, 1, 22] : List Int).map V.int)]) rfl (by decide) h4
  have hlen := oLenL (k := 1) (l := ms.map V.int) (σ := [O.list ((ns.take 4).map .int), .list (ms.map .int), .list (([8, 1, 1, 22] : List Int).map V.int)]) rfl (len_ok' (by rw [List.length_map]; omega))
  rw [List.length_map] at hlen
  rw [← List.map_drop] at hd
  refine runF_ret (vs := [.adr scrA]) (σ0 := []) (ids := [4]) rfl (sNext (iAsg hc rfl) (sStop (iRet (r2 rfl (r2 rfl (rEs (rOne rfl) hlen) hd) (oAddL (x := ms.map V.int) rfl rfl (len_ok' ?_)))))) (frz_list (ids := []) rfl ?_) rfl rfl
  · rw [List.length_map, List.length_map, List.length_drop]; exact Nat.le_trans (Nat.add_le_add h4 (Nat.sub_le ..)) (by decide)
  · rw [← List.map_append]; exact frzL_Z _ _ _
end
section
set_option backward.match.sparseCases false
open PySem
section
variable {σ σ' l : St} {k j : Nat} {o o' : O}
theorem lk_lt {α : Type} {l : List α} {i : Nat} {x : α} (h : l[i]? = some x) : i < l.length := (List.getElem?_eq_some_iff.mp h).1
theorem lk_app (h : σ[k]? = some o) : (σ ++ l)[k]? = some o := (List.getElem?_append_left (lk_lt h)).trans h
theorem lk_last : (σ ++ [o])[σ.length]? = some o := List.getElem?_concat_length
theorem lk_set (h : σ[k]? = some o) (hk : j ≠ k) : (σ.set j o')[k]? = some o := (List.getElem?_set_ne hk).trans h
theorem lk_self (h : σ[j]? = some o) : (σ.set j o')[j]? = some o' := List.getElem?_set_self (lk_lt h)
end
noncomputable def Up (σ σ' : St) : Prop := ∀ (k : Nat) (o : O), σ[k]? = some o → σ'[k]? = some o
theorem Up.app (σ l : St) : Up σ (σ ++ l) := fun _ _ h => lk_app h
theorem Up.trans {a b c : St} (x : Up a b) (y : Up b c) : Up a c := fun k o h => y k o (x k o h)
theorem vsm_refl (a : V) : vsm a a = true := by
  refine V.rec (motive_1 := fun a => vsm a a = true) (motive_2 := fun as => vsms as as = true) rfl ?_ ?_ ?_ ?_ ?_ ?_ ?_ rfl ?_ a
  · exact fun b => beq_self_eq_true b
  · exact fun b => beq_self_eq_true b
  · exact fun b => beq_self_eq_true b
  · exact fun _ h => h
  · exact fun a b c => Bool.and_eq_true_iff.mpr ⟨Bool.and_eq_true_iff.mpr ⟨beq_self_eq_true a, beq_self_eq_true b⟩, beq_self_eq_true c⟩
  · exact fun b => beq_self_eq_true b
  · exact fun b => beq_self_eq_true b
  · exact fun _ _ h1 h2 => Bool.and_eq_true_iff.mpr ⟨h1, h2⟩
theorem vsms_refl (as : List V) : vsms as as = true := by
  induction as with
  | nil => rfl
  | cons a as ih => exact Bool.and_eq_true_iff.mpr ⟨vsm_refl a, ih⟩
theorem kvsm_refl {κ : Type} [BEq κ] [ReflBEq κ] (as : List (κ × V)) : kvsm as as = true := by
  induction as with
  | nil => rfl
  | cons a as ih => exact Bool.and_eq_true_iff.mpr ⟨Bool.and_eq_true_iff.mpr ⟨beq_self_eq_true _, vsm_refl _⟩, ih⟩
theorem osm_refl (o : O) : osm o o = true := by
  cases o with
  | list l => exact vsms_refl l
  | dI l => exact kvsm_refl l
  | dS l => exact kvsm_refl l
  | it k i => exact Bool.and_eq_true_iff.mpr ⟨beq_self_eq_true k, beq_self_eq_true i⟩
theorem same_up {a : Option Nat} (σ : St) : ∀ {n : Nat} {σ' : St}, Up σ σ' → sameAll a n σ σ' = true := by
  induction σ with
  | nil => exact fun _ => rfl
  | cons o σ ih =>
    intro n σ' h
    cases σ' with
    | nil => exact nomatch h 0 o rfl
    | cons o' σ' =>
      obtain rfl : o' = o := Option.some.inj (h 0 o rfl)
      exact Bool.and_eq_true_iff.mpr ⟨Bool.or_eq_true_iff.mpr (.inl (osm_refl _)), ih fun k o e => h (k + 1) o e⟩
section
variable {σ : St} {k i p m : Nat} {l : List V} {v x : V} {s : List Nat}
theorem oIdxL (h : σ[k]? = some (.list l)) (hi : i ≤ 200) (hv : l[i]? = some v) : fIdx (.ref k) (.int (i : Int)) σ = some (v, σ) := by
  show Option.map _ (atLI σ k _ _) = _
  unfold atLI
  rw [h]
  dsimp only
  rw [if_pos ⟨Int.natCast_nonneg i, Int.ofNat_le.mpr hi⟩, Int.toNat_natCast, hv]; rfl
theorem oIdxT (hi : i ≤ 200) (hv : l[i]? = some v) : fIdx (.tup l) (.int (i : Int)) σ = some (v, σ) := by
  show Option.map _ (if 0 ≤ (i : Int) ∧ (i : Int) ≤ 200 then l[(i : Int).toNat]? else none) = _
  rw [if_pos ⟨Int.natCast_nonneg i, Int.ofNat_le.mpr hi⟩, Int.toNat_natCast, hv]; rfl
theorem oPutL (h : σ[k]? = some (.list l)) (hi : i ≤ 200) (hl : i < l.length) : storeV σ (.ref k) (.int (i : Int)) v = some (σ.set k (.list (l.set i v))) := by
  show atLI σ k _ _ = _
  unfold atLI
  rw [h]
  dsimp only
  rw [if_pos ⟨Int.natCast_nonneg i, Int.ofNat_le.mpr hi, Int.ofNat_lt.mpr hl⟩, Int.toNat_natCast]
theorem oAddN (a b : Nat) : binV .Add (.int a) (.int b) σ = some (.int ((a + b : Nat) : Int), σ) := rfl
theorem oMulS (hm : m ≤ 1000) (hl : lenOk (s.length * m) = true) : binV .Mult (.str s) (.int (m : Int)) σ = some (.str (List.replicate m s).flatten, σ) := by
  show (if decide (0 ≤ (m : Int)) && decide ((m : Int) ≤ 1000) && lenOk (s.length * (m : Int).toNat) then _ else none) = _
  have h2 : decide ((m : Int) ≤ 1000) = true := decide_eq_true (Int.ofNat_le.mpr hm)
  rw [decide_eq_true (Int.natCast_nonneg m), h2, Int.toNat_natCast, hl]; rfl
theorem cut_drop {α : Type} (l : List α) (p : Nat) : cut l p l.length = l.drop p := by unfold cut; rw [List.take_length]
theorem oSlRN {G : GX} (h : σ[k]? = some (.list l)) (hl : l.length ≤ 100000) (hp : p ≤ l.length) : fSlR G (.ref k) (.int (p : Int)) σ = some (.ref σ.length, σ ++ [O.list (cut l 0 p)]) := by
  rw [oSlR h (len_ok' hl) (by rw [Int.natAbs_natCast]; omega), show bnd l.length (p : Int) = p from (if_neg (Int.not_lt.mpr (Int.natCast_nonneg p))).trans (Nat.min_eq_left hp)]
theorem cut_le {α : Type} (l : List α) (a b : Nat) : (cut l a b).length ≤ l.length := by
  unfold cut
  rw [List.length_drop, List.length_take]; omega
end
noncomputable def seamE (G : GX) (v w : Nat) : ME := k2 (binV .Add) (k2 (binV .Add) (k2 (fSlR G) (kVar v) (kVar 4)) (kEs fList (kCons (kVar w) kNil))) (k2 fSlL (kVar v) (k2 (binV .Add) (kVar 4) (kV (.int 2))))
theorem seam {G : GX} {v w k p : Nat} {x : V} {l : List V} {ρ : Env1} {σ : St} (hv : ∀ σ, kVar v ρ σ = some (.ref k, σ)) (h4 : ∀ σ, kVar 4 ρ σ = some (.int (p : Int), σ)) (hw : ∀ σ, kVar w ρ σ = some (x, σ)) (hl : σ[k]? = some (.list l)) (hp : p + 2 ≤ l.length) (hb : l.length ≤ 1000) :
    ∃ j σ', seamE G v w ρ σ = some (.ref j, σ') ∧ σ'[j]? = some (.list (cut l 0 p ++ [x] ++ cut l (p + 2) l.length)) ∧ σ.length ≤ j ∧ Up σ σ' := by
  have hb' : l.length ≤ 100000 := Nat.le_trans hb (by decide)
  have hc : (cut l 0 p).length ≤ 1000 := Nat.le_trans (cut_le ..) hb
  refine ⟨_, _, r2 (r2 (r2 (hv _) (h4 _) (oSlRN hl hb' (by omega))) (rEs (rOne (hw _)) rfl) (oAddL (lk_app lk_last) lk_last (len_ok' (by show _ + 1 ≤ _; omega)))) (r2 (hv _) (r2 (h4 _) rfl (oAddN p 2)) (oSlLL (lk_app (lk_app (lk_app hl))) hb' hp)) (oAddL (lk_app lk_last) lk_last (len_ok' (by rw [List.length_append, List.length_drop]; show _ + 1 + _ ≤ _; omega))), ?_, ?_, ?_⟩
  · rw [cut_drop]; exact lk_last
  · rw [List.length_append, List.length_append, List.length_append, List.length_append]; omega
  · exact ((((Up.app _ _).trans (.app _ _)).trans (.app _ _)).trans (.app _ _)).trans (.app _ _)
noncomputable abbrev vS (l : List (List Nat)) : List V := l.map .str
noncomputable abbrev vTies (l : List (Nat × Nat)) : List V := l.map fun e => .tup [.int (e.1 : Int), .int (e.2 : Int)]
theorem getD_map {α β : Type} (f : α → β) (l : List α) (i : Nat) (d : α) (h : i < l.length) : (l.map f)[i]? = some (f (l.getD i d)) := by
  rw [List.getElem?_map, List.getElem?_eq_getElem h, List.getD_eq_getElem?_getD, List.getElem?_eq_getElem h]; rfl
noncomputable def laB1 : MS := sCons (sSub (kVar 1) (kVar 4) (k2 (binV .Add) (k2 (binV .Add) (kV (.str [40])) (k2 fIdx (kVar 1) (kVar 4))) (kV (.str [41])))) (sCons (sExpr (kMeth .append (kVar 3) (kCons (kEs fTup (kCons (k2 fIdx (kVar 2) (kVar 4)) (kCons (kV (.int 1)) kNil))) kNil))) sNil)
noncomputable def laJ : ME := k2 (binV .Add) (k2 (binV .Add) (k2 (binV .Add) (k2 (binV .Mult) (kV (.str [40])) (kVar 8)) (k2 fIdx (kVar 1) (kVar 4))) (k2 fIdx (kVar 1) (k2 (binV .Add) (kVar 4) (kV (.int 1))))) (k2 (binV .Mult) (kV (.str [41])) (kVar 8))
noncomputable def laB2 (G : GX) : MS := sCons (sAsg 7 (k2 (binV .Sub) (kEs (biV .len) (kCons (kVar 1) kNil)) (kV (.int 1)))) (sCons (sAsg 4 (k2 (binV .Mod) (kVar 5) (kVar 7))) (sCons (sAsg 8 (k2 (binV .Add) (kV (.int 1)) (k2 (binV .Mod) (k2 (binV .FloorDiv) (kVar 5) (kVar 7)) (kVar 6))))
  (sCons (sAsg 9 laJ) (sCons (sAsg 10 (k2 (binV .Add) (k2 fIdx (kVar 2) (kVar 4)) (k2 fIdx (kVar 2) (k2 (binV .Add) (kVar 4) (kV (.int 1))))))
  (sCons (sAsg 1 (seamE G 1 9)) (sCons (sAsg 2 (seamE G 2 10)) (sCons (sExpr (kMeth .append (kVar 3) (kCons (kEs fTup (kCons (kVar 10) (kCons (kVar 8) kNil))) kNil))) sNil)))))))
noncomputable def wrapP (tx : List (List Nat)) (p : Nat) : List (List Nat) := tx.set p ([40] ++ tx.getD p [] ++ [41])
theorem laB1_run {a0 : V} {tx : List (List Nat)} {sd : List Nat} {ts : List (Nat × Nat)} {p : Nat} {O0 O4 : O} {j5 j6 j7 j8 j9 j10 : Option V} (hp : p < tx.length) (hq : p < sd.length) (hb : tx.length ≤ 200) (ht : (tx.getD p []).length ≤ 1000) (hts : ts.length ≤ 1000) :
    laB1 ([some a0, some (.ref 1), some (.ref 2), some (.ref 3), some (.int p), j5, j6, j7, j8, j9, j10], [O0, .list (vS tx), .list (vI sd), .list (vTies ts), O4]) =
      some (.next, [some a0, some (.ref 1), some (.ref 2), some (.ref 3), some (.int p), j5, j6, j7, j8, j9, j10], [O0, .list (vS (wrapP tx p)), .list (vI sd), .list (vTies (ts ++ [(sd.getD p 0, 1)])), O4]) := by
  have hp2 : p ≤ 200 := by omega
  rw [show vTies (ts ++ [(sd.getD p 0, 1)]) = vTies ts ++ [.tup [.int (sd.getD p 0 : Nat), .int 1]] from List.map_append, show vS (wrapP tx p) = (vS tx).set p (.str ([40] ++ tx.getD p [] ++ [41])) from List.map_set]
  exact sNext (iSub (r2 (r2 rfl (r2 rfl rfl (oIdxL rfl hp2 (getD_map V.str tx p [] hp))) (oAddS (x := [40]) (len_ok' (by show 1 + _ ≤ _; omega)))) rfl (oAddS (y := [41]) (len_ok' (by rw [List.length_append]; show 1 + _ + 1 ≤ _; omega)))) rfl rfl (oPutL (l := vS tx) rfl hp2 (by rw [List.length_map]; exact hp)))
    (sLast (iExpr (rMeth rfl rfl (rOne (rEs (rCons (r2 rfl rfl (oIdxL (l := vI sd) rfl hp2 (getD_map (fun n : Nat => V.int (n : Int)) sd p 0 hq))) (rOne rfl)) rfl)) (oApp rfl (len_ok' (by rw [List.length_map]; omega))))))
noncomputable def joinP (tx : List (List Nat)) (p m : Nat) : List Nat := (List.replicate m [40]).flatten ++ tx.getD p [] ++ tx.getD (p + 1) [] ++ (List.replicate m [41]).flatten
structure LB (tx : List (List Nat)) (sd : List Nat) (ts : List (Nat × Nat)) (n kd room : Nat) : Prop where
  hr : tx.length = room + 1
  r0 : 0 < room
  hs : sd.length = tx.length
  k0 : 0 < kd
  k2 : kd ≤ 2
  n6 : n < 1000000
  hb : room ≤ 100
  ht : ∀ i, (tx.getD i []).length ≤ 100
  hts : ts.length ≤ 1000
theorem rep_len (m : Nat) (c : Nat) : (List.replicate m [c]).flatten.length = m := by simp
noncomputable def LaS (nm : List V) (tx : List (List Nat)) (sd : List Nat) (ts : List (Nat × Nat)) (r : Env1 × St) : Prop := ∃ (k1 k2 : Nat) (j4 j5 j6 j7 j8 j9 j10 : Option V), r.1 = [some (.ref 0), some (.ref k1), some (.ref k2), some (.ref 3), j4, j5, j6, j7, j8, j9, j10] ∧
  r.2[0]? = some (.list nm) ∧ r.2[k1]? = some (.list (vS tx)) ∧ r.2[k2]? = some (.list (vI sd)) ∧ r.2[3]? = some (.list (vTies ts)) ∧ k1 ≠ 3 ∧ k2 ≠ 3
noncomputable def seamP {α : Type} (l : List α) (p : Nat) (x : α) : List α := cut l 0 p ++ [x] ++ cut l (p + 2) l.length
theorem seam_map {α β : Type} (f : α → β) (l : List α) (p : Nat) (x : α) : cut (l.map f) 0 p ++ [f x] ++ cut (l.map f) (p + 2) (l.map f).length = (seamP l p x).map f := by
  unfold seamP
  rw [cut_drop, cut_drop, List.map_append, List.map_append, ← List.map_drop]
  refine congrArg (· ++ _) (congrArg (· ++ _) ?_)
  show ((l.map f).take p).drop 0 = ((l.take p).drop 0).map f
  rw [List.drop_zero, List.drop_zero, List.map_take]
theorem laB2_run {G : GX} {nm : List V} {tx : List (List Nat)} {sd : List Nat} {ts : List (Nat × Nat)} {n kd room : Nat} (H : LB tx sd ts n kd room) {r : Env1 × St} {ρ : Env1} (S : LaS nm tx sd ts r) (hρ : bTup [5, 6] (.tup [.int (n : Int), .int (kd : Int)]) r.1 = some ρ) :
    ∃ r', laB2 G (ρ, r.2) = some (.next, r') ∧ LaS nm (seamP tx (n % room) (joinP tx (n % room) (1 + n / room % kd))) (seamP sd (n % room) (sd.getD (n % room) 0 + sd.getD (n % room + 1) 0)) (ts ++ [(sd.getD (n % room) 0 + sd.getD (n % room + 1) 0, 1 + n / room % kd)]) r' := by
  obtain ⟨ρ0, σ⟩ := r
  obtain ⟨k1, k2, j4, j5, j6, j7, j8, j9, j10, e0, h0, h1, h2, h3, g1, g2⟩ := S
  have e0 : ρ0 = _ := e0
  subst e0
  obtain rfl := Option.some.inj hρ
  obtain ⟨hr, r0, hs, hk0, hk2, n6, hb, ht, hts⟩ := H
  have hp : n % room < room := Nat.mod_lt n r0
  have hm : n / room % kd < kd := Nat.mod_lt _ hk0
  generalize ep : n % room = p at hp
  generalize em : 1 + n / room % kd = m
  have hm1 : m ≤ 2 := by omega
  have h3l : 3 < σ.length := lk_lt h3
  have t1 := ht p
  have t2 := ht (p + 1)
  have hlen := oLenL h1 (len_ok' (by rw [List.length_map]; omega))
  rw [List.length_map] at hlen
  have hJ : ∀ {j5 j6 j7 j9 j10 : Option V}, laJ [some (.ref 0), some (.ref k1), some (.ref k2), some (.ref 3), some (.int (p : Int)), j5, j6, j7, some (.int (m : Int)), j9, j10] σ = some (.str (joinP tx p m), σ) := fun {j5 j6 j7 j9 j10} =>
    r2 (r2 (r2 (r2 rfl rfl (oMulS (s := [40]) (by omega) (len_ok' (by show 1 * m ≤ _; omega)))) (r2 rfl rfl (oIdxL h1 (by omega) (getD_map V.str tx p [] (by omega)))) (oAddS (len_ok' (by rw [rep_len]; omega)))) (r2 rfl (r2 rfl rfl (oAddN p 1)) (oIdxL h1 (by omega) (getD_map V.str tx (p + 1) [] (by omega)))) (oAddS (len_ok' (by rw [List.length_append, rep_len]; omega))))
      (r2 rfl rfl (oMulS (s := [41]) (by omega) (len_ok' (by show 1 * m ≤ _; omega)))) (oAddS (len_ok' (by rw [List.length_append, List.length_append, rep_len, rep_len]; omega)))
  have e3 : (sd.getD p 0 : Int) + (sd.getD (p + 1) 0 : Int) = ((sd.getD p 0 + sd.getD (p + 1) 0 : Nat) : Int) := rfl
  have hsl : sd.length ≤ 1000 := by omega
  obtain ⟨k1', σ1, q1, q2, q3, q4⟩ := seam (G := G) (v := 1) (w := 9) (k := k1) (p := p) (x := .str (joinP tx p m)) (l := vS tx) (ρ := [some (.ref 0), some (.ref k1), some (.ref k2), some (.ref 3), some (.int (p : Int)), some (.int (n : Int)), some (.int (kd : Int)), some (.int (room : Int)), some (.int (m : Int)), some (.str (joinP tx p m)), some (.int ((sd.getD p 0 + sd.getD (p + 1) 0 : Nat) : Int))]) (σ := σ) (fun _ => rfl) (fun _ => rfl) (fun _ => rfl) h1 (by rw [List.length_map]; omega) (by rw [List.length_map]; omega)
  obtain ⟨k2', σ2, q5, q6, q7, q8⟩ := seam (G := G) (v := 2) (w := 10) (k := k2) (p := p) (x := .int ((sd.getD p 0 + sd.getD (p + 1) 0 : Nat) : Int)) (l := vI sd) (ρ := [some (.ref 0), some (.ref k1'), some (.ref k2), some (.ref 3), some (.int (p : Int)), some (.int (n : Int)), some (.int (kd : Int)), some (.int (room : Int)), some (.int (m : Int)), some (.str (joinP tx p m)), some (.int ((sd.getD p 0 + sd.getD (p + 1) 0 : Nat) : Int))]) (σ := σ1) (fun _ => rfl) (fun _ => rfl) (fun _ => rfl) (q4 _ _ h2) (by rw [List.length_map]; omega) (by rw [List.length_map]; omega)
  rw [seam_map] at q2
  rw [seam_map (fun n : Nat => V.int (n : Int))] at q6
  have q3 : σ.length ≤ k1' := q3
  have q7 : σ1.length ≤ k2' := q7
  have hs1 : σ.length ≤ σ1.length := Nat.le_trans q3 (Nat.le_of_lt (lk_lt q2))
  have n1 : (3 : Nat) ≠ k1' := by omega
  have n2 : (3 : Nat) ≠ k2' := by omega
  refine ⟨(_, _), sNext (iAsg (v := .int (room : Int)) (r2 (rEs (rOne rfl) hlen) rfl (congrArg (fun i => some (V.int i, σ)) (by omega))) rfl) (sNext (iAsg (v := .int (p : Int)) (r2 rfl rfl ((oMod n room (by omega)).trans (by rw [ep]))) rfl) (sNext (iAsg (v := .int (m : Int)) (r2 rfl (r2 (r2 rfl rfl (oDiv n room (by omega) (by omega))) rfl (oMod _ kd (by omega))) (congrArg (fun i => some (V.int i, σ)) (by rw [← em]; rfl))) rfl)
    (sNext (iAsg hJ rfl) (sNext (iAsg (r2 (r2 rfl rfl (oIdxL h2 (by omega) (getD_map (fun n : Nat => V.int (n : Int)) sd p 0 (by omega)))) (r2 rfl (r2 rfl rfl (oAddN p 1)) (oIdxL h2 (by omega) (getD_map (fun n : Nat => V.int (n : Int)) sd (p + 1) 0 (by omega)))) (oAddN _ _)) rfl)
    (sNext (iAsg q1 rfl) (sNext (iAsg q5 rfl) (sLast (iExpr (rMeth rfl ?_ (rOne (rEs (rCons rfl (rOne rfl)) rfl)) (oApp (q8 _ _ (q4 _ _ h3)) (len_ok' (by rw [List.length_map]; omega))))))))))))
    , k1', k2', _, _, _, _, _, _, _, rfl, lk_set (q8 _ _ (q4 _ _ h0)) (by decide), lk_set (q8 _ _ q2) n1, lk_set q6 n2, (lk_self (q8 _ _ (q4 _ _ h3))).trans (congrArg (fun l => some (O.list l)) (List.map_append (l₂ := [(sd.getD p 0 + sd.getD (p + 1) 0, m)])).symm), n1.symm, n2.symm⟩
  show (ref1 (V.ref 3) fun k => atL σ2 k fun _ => some ()).isSome = true
  show (atL σ2 3 fun _ => some ()).isSome = true
  unfold atL
  rw [q8 _ _ (q4 _ _ h3)]; rfl
end
section
set_option backward.match.sparseCases false
open PySem
noncomputable def menuE : ME := kEs fList (kCons (kV (.str [34, 40, 34])) (kCons (kV (.str [92])) (kCons (kV (.str [34, 41, 40, 34])) (kCons (kV (.str [34, 92, 34, 41, 34])) kNil))))
noncomputable def laS0 : MS := sSub (kVar 1) (kVar 4) (k2 (binV .Add) (k2 fIdx menuE (k2 (binV .Mod) (k2 (binV .FloorDiv) (k2 fIdx (kVar 0) (kV (.int 3))) (kV (.int 5))) (kV (.int 4)))) (k2 fIdx (kVar 1) (kVar 4)))
noncomputable def laI1 : ME := kEs fTup (kCons (k2 (binV .Mod) (k2 fIdx (kVar 0) (kV (.int 0))) (kV (.int 5))) (kCons (k2 (binV .Mod) (k2 (binV .FloorDiv) (k2 fIdx (kVar 0) (kV (.int 0))) (kV (.int 5))) (kV (.int 5))) kNil))
noncomputable def laI2 : ME := kEs fTup (kCons (kEs fTup (kCons (k2 fIdx (kVar 0) (kV (.int 1))) (kCons (kV (.int 2)) kNil))) (kCons (kEs fTup (kCons (k2 fIdx (kVar 0) (kV (.int 2))) (kCons (kV (.int 1)) kNil))) kNil))
noncomputable def laEnd : MS := sCons (sRet (kEs fTup (kCons (k2 (binV .Add) (kMeth .join (kV (.str [])) (kCons (kVar 1) kNil)) (kV (.str [59]))) (kCons (kVar 3) kNil)))) sNil
noncomputable def b_la (G : GX) : MS := sCons (sAsg 1 (kEs fList (kCons (kV (.str [65])) (kCons (kV (.str [66])) (kCons (kV (.str [67])) (kCons (kV (.str [68])) (kCons (kV (.str [69])) kNil)))))))
   (sCons (sAsg 2 (kEs fList (kCons (kV (.int 1)) (kCons (kV (.int 2)) (kCons (kV (.int 4)) (kCons (kV (.int 8)) (kCons (kV (.int 16)) kNil))))))) (sCons (sAsg 3 (kEs fList kNil)) (sCons (sAsg 4 (k2 (binV .Mod) (k2 fIdx (kVar 0) (kV (.int 3))) (kV (.int 5)))) (sCons laS0
   (sCons (sFor 4 laI1 laB1 sNil) (sCons (sForT [5, 6] laI2 (laB2 G)) laEnd))))))
noncomputable def B (k : Nat) (tx : List (List Nat)) : Prop := ∀ x ∈ tx, x.length ≤ k
section
variable {k k' p : Nat} {tx : List (List Nat)} {x : List Nat}
theorem B.getD (h : B k tx) (i : Nat) : (tx.getD i []).length ≤ k := by
  rw [List.getD_eq_getElem?_getD]
  cases q : tx[i]? with
  | none => exact Nat.zero_le _
  | some x => exact h x (List.mem_of_getElem? q)
theorem B.set (h : B k tx) (hx : x.length ≤ k) : B k (tx.set p x) := fun y hy => (List.mem_or_eq_of_mem_set hy).elim (h y) fun q => q ▸ hx
theorem B.le (h : B k tx) (hk : k ≤ k') : B k' tx := fun y hy => Nat.le_trans (h y hy) hk
theorem B.wrap (h : B k tx) (p : Nat) : B (k + 2) (wrapP tx p) := (h.le (Nat.le_add_right k 2)).set (by
  rw [List.length_append, List.length_append]
  exact (Nat.add_comm 1 _).symm ▸ Nat.succ_le_succ (Nat.succ_le_succ (h.getD p)))
theorem B.seam (h : B k tx) (hx : x.length ≤ k) : B k (seamP tx p x) := fun y hy => (List.mem_append.mp hy).elim (fun q => (List.mem_append.mp q).elim (fun q => h y (List.mem_of_mem_take (List.mem_of_mem_drop q))) fun q => List.mem_singleton.mp q ▸ hx) fun q => h y (List.mem_of_mem_take (List.mem_of_mem_drop q))
theorem wrap_len : (wrapP tx p).length = tx.length := List.length_set
theorem seam_len {α : Type} {l : List α} {p n : Nat} {x : α} (h : l.length = n + 1) (hp : p < n) : (seamP l p x).length = n := by
  unfold seamP
  rw [cut_drop, List.length_append, List.length_append, List.length_drop, show (cut l 0 p).length = p by unfold cut; rw [List.drop_zero, List.length_take]; omega, List.length_singleton]; omega
theorem join_len (h : B k tx) (p m : Nat) : (joinP tx p m).length ≤ 2 * k + 2 * m := by
  have h1 := h.getD p
  have h2 := h.getD (p + 1)
  unfold joinP
  rw [List.length_append, List.length_append, List.length_append, rep_len, rep_len]
  omega
end
noncomputable def dressP (k : Nat) : List Nat := [[34, 40, 34], [92], [34, 41, 40, 34], [34, 92, 34, 41, 34]].getD k []
noncomputable def tx0 : List (List Nat) := [[65], [66], [67], [68], [69]]
noncomputable def sd0 : List Nat := [1, 2, 4, 8, 16]
noncomputable def dressedP (d : Nat) : List (List Nat) := tx0.set (d % 5) (dressP (d / 5 % 4) ++ tx0.getD (d % 5) [])
theorem tx0_B : B 1 tx0 := fun x hx => (show ∀ x ∈ tx0, x.length ≤ 1 by decide) x hx
theorem dress_len (k : Nat) : (dressP k).length ≤ 5 := B.getD (k := 5) (fun x hx => (show ∀ x ∈ ([[34, 40, 34], [92], [34, 41, 40, 34], [34, 92, 34, 41, 34]] : List (List Nat)), x.length ≤ 5 by decide) x hx) k
theorem dressed_B (d : Nat) : B 6 (dressedP d) := (tx0_B.le (by decide)).set (by
  rw [List.length_append]
  exact Nat.add_le_add (dress_len _) (tx0_B.getD _))
noncomputable def laid2 (a d : Nat) : List (List Nat) := wrapP (wrapP (dressedP d) (a % 5)) (a / 5 % 5)
noncomputable def laid3 (a b d : Nat) : List (List Nat) := cut (laid2 a d) 0 (b % 4) ++ [joinP (laid2 a d) (b % 4) (1 + b / 4 % 2)] ++ cut (laid2 a d) (b % 4 + 2) (laid2 a d).length
noncomputable def side3 (b : Nat) : List Nat := cut sd0 0 (b % 4) ++ [sd0.getD (b % 4) 0 + sd0.getD (b % 4 + 1) 0] ++ cut sd0 (b % 4 + 2) sd0.length
noncomputable def laid4 (a b c d : Nat) : List (List Nat) := cut (laid3 a b d) 0 (c % 3) ++ [joinP (laid3 a b d) (c % 3) (1 + c / 3 % 1)] ++ cut (laid3 a b d) (c % 3 + 2) (laid3 a b d).length
noncomputable def tiesP (a b c : Nat) : List (Nat × Nat) := [(sd0.getD (a % 5) 0, 1), (sd0.getD (a / 5 % 5) 0, 1), (sd0.getD (b % 4) 0 + sd0.getD (b % 4 + 1) 0, 1 + b / 4 % 2), ((side3 b).getD (c % 3) 0 + (side3 b).getD (c % 3 + 1) 0, 1 + c / 3 % 1)]
noncomputable def lineP (a b c d : Nat) : List Nat := joinS [] (laid4 a b c d) ++ [59]
theorem joinS_nil : ∀ (l : List (List Nat)), joinS [] l = l.flatten := by
  intro l
  induction l with
  | nil => rfl
  | cons x l ih =>
    cases l with
    | nil => exact (List.append_nil x).symm
    | cons y r =>
      show x ++ [] ++ joinS [] (y :: r) = x ++ (y :: r).flatten
      rw [ih, List.append_nil]
noncomputable abbrev tTies (ts : List (Nat × Nat)) : List T := ts.map fun e => .tup [.int (e.1 : Int), .int (e.2 : Int)]
theorem frzL_Ties (σ : St) (k : Nat) (ts : List (Nat × Nat)) : frzL (frz σ (k + 2)) (vTies ts) = some (tTies ts, []) := by
  induction ts with
  | nil => rfl
  | cons e ts ih => exact frzL_cons (a := []) (b := []) rfl ih
theorem laS0_run {d : Nat} (hd : d < 1000000) {nm : List V} (h3 : nm[3]? = some (.int d)) {j5 j6 j7 j8 j9 j10 : Option V} :
    laS0 ([some (.ref 0), some (.ref 1), some (.ref 2), some (.ref 3), some (.int (d % 5 : Nat)), j5, j6, j7, j8, j9, j10], [.list nm, .list (vS tx0), .list (vI sd0), .list []]) =
      some (.next, [some (.ref 0), some (.ref 1), some (.ref 2), some (.ref 3), some (.int (d % 5 : Nat)), j5, j6, j7, j8, j9, j10], [.list nm, .list (vS (dressedP d)), .list (vI sd0), .list (vTies []), .list (vS [[34, 40, 34], [92], [34, 41, 40, 34], [34, 92, 34, 41, 34]])]) := by
  have hp : d % 5 < 5 := Nat.mod_lt d (by decide)
  have hq : d / 5 % 4 < 4 := Nat.mod_lt _ (by decide)
  rw [show vS (dressedP d) = (vS tx0).set (d % 5) (.str (dressP (d / 5 % 4) ++ tx0.getD (d % 5) [])) from List.map_set]
  exact iSub (r2 (r2 rfl (r2 (r2 (r2 rfl rfl (oIdxL (i := 3) rfl (by decide) h3)) rfl (oDiv d 5 (by decide) (by omega))) rfl (oMod _ 4 (by decide))) (oIdxL (l := vS [[34, 40, 34], [92], [34, 41, 40, 34], [34, 92, 34, 41, 34]]) rfl (by omega) (getD_map V.str [[34, 40, 34], [92], [34, 41, 40, 34], [34, 92, 34, 41, 34]] _ [] hq)))
    (r2 rfl rfl (oIdxL (l := vS tx0) rfl (by omega) (getD_map V.str tx0 _ [] hp))) (oAddS (len_ok' (Nat.le_trans (Nat.add_le_add (dress_len _) (tx0_B.getD _)) (by decide))))) rfl rfl (oPutL (l := vS tx0) rfl (by omega) hp)
theorem la_run {G : GX} {a b c d : Nat} (ha : a < 1000000) (hb : b < 1000000) (hc : c < 1000000) (hd : d < 1000000) :
    runF 11 (b_la G) [.list [.int a, .int b, .int c, .int d]] = some (.tup [.str (lineP a b c d), .list (tTies (tiesP a b c))], 0) := by
  have b4 : b % 4 < 4 := Nat.mod_lt _ (by decide)
  have c3 : c % 3 < 3 := Nat.mod_lt _ (by decide)
  have l0 : (dressedP d).length = 5 := List.length_set
  have l2 : (laid2 a d).length = 4 + 1 := wrap_len.trans (wrap_len.trans l0)
  have l3 : (laid3 a b d).length = 3 + 1 := seam_len l2 b4
  have l4 : (laid4 a b c d).length = 3 := seam_len l3 c3
  have B0 := dressed_B d
  have B1 := B0.wrap (a % 5)
  have B2 : B 10 (laid2 a d) := B1.wrap (a / 5 % 5)
  have B3 : B 24 (laid3 a b d) := (B2.le (by decide)).seam (Nat.le_trans (join_len B2 _ _) (by omega))
  have B4 : B 52 (laid4 a b c d) := (B3.le (by decide)).seam (Nat.le_trans (join_len B3 _ _) (by omega))
  have LB1 : LB (laid2 a d) sd0 [(sd0.getD (a % 5) 0, 1), (sd0.getD (a / 5 % 5) 0, 1)] b 2 4 := ⟨l2, by decide, l2.symm, by decide, by decide, hb, by decide, fun i => Nat.le_trans (B2.getD i) (by decide), (by decide : 2 ≤ 1000)⟩
  have LB2 : LB (laid3 a b d) (side3 b) [(sd0.getD (a % 5) 0, 1), (sd0.getD (a / 5 % 5) 0, 1), (sd0.getD (b % 4) 0 + sd0.getD (b % 4 + 1) 0, 1 + b / 4 % 2)] c 1 3 := ⟨l3, by decide, (seam_len (n := 4) rfl b4).trans l3.symm, by decide, by decide, hc, by decide, fun i => Nat.le_trans (B3.getD i) (by decide), (by decide : 3 ≤ 1000)⟩
  have a5 : a % 5 < 5 := Nat.mod_lt _ (by decide)
  have a55 : a / 5 % 5 < 5 := Nat.mod_lt _ (by decide)
  obtain ⟨r1, q1, S1⟩ := laB2_run (G := G) LB1 (nm := [.int a, .int b, .int c, .int d]) (r := ([some (.ref 0), some (.ref 1), some (.ref 2), some (.ref 3), some (.int (a / 5 % 5 : Nat)), none, none, none, none, none, none], [.list [.int a, .int b, .int c, .int d], .list (vS (laid2 a d)), .list (vI sd0), .list (vTies [(sd0.getD (a % 5) 0, 1), (sd0.getD (a / 5 % 5) 0, 1)]), .list (vS [[34, 40, 34], [92], [34, 41, 40, 34], [34, 92, 34, 41, 34]])])) ⟨1, 2, _, _, _, _, _, _, _, rfl, rfl, rfl, rfl, rfl, by decide, by decide⟩ rfl
  have hbd : ∀ {r : Env1 × St} {tx : List (List Nat)} {sd : List Nat} {ts : List (Nat × Nat)} {nm : List V}, LaS nm tx sd ts r → ∃ ρ, bTup [5, 6] (.tup [.int (c : Int), .int ((1 : Nat) : Int)]) r.1 = some ρ := fun {r tx sd ts nm} ⟨_, _, _, _, _, _, _, _, _, e, _⟩ => by rw [e]; exact ⟨_, rfl⟩
  obtain ⟨ρ2, hρ2⟩ := hbd S1
  obtain ⟨⟨ρ3, σ3⟩, q2, kx, ky, j4, j5, j6, j7, j8, j9, j10, e0, h0, h1, h2, h3, _⟩ := laB2_run (G := G) LB2 S1 hρ2
  have e0 : ρ3 = _ := e0
  subst e0
  have h1 : σ3[kx]? = some (.list (vS (laid4 a b c d))) := h1
  have h3 : σ3[3]? = some (.list (vTies (tiesP a b c))) := h3
  have hsum : ((laid4 a b c d).map List.length).sum ≤ 156 := by
    match h : laid4 a b c d, l4 with
    | [x, y, z], _ =>
      rw [h] at B4
      have h1 := B4 x List.mem_cons_self
      have h2 := B4 y (List.mem_cons_of_mem _ List.mem_cons_self)
      have h3 := B4 z (List.mem_cons_of_mem _ (List.mem_cons_of_mem _ List.mem_cons_self))
      show x.length + (y.length + (z.length + 0)) ≤ 156
      omega
  have g1 := laB1_run (a0 := .ref 0) (tx := dressedP d) (sd := sd0) (ts := []) (p := a % 5) (O0 := .list [.int a, .int b, .int c, .int d]) (O4 := .list (vS [[34, 40, 34], [92], [34, 41, 40, 34], [34, 92, 34, 41, 34]])) (j5 := none) (j6 := none) (j7 := none) (j8 := none) (j9 := none) (j10 := none) (by rw [l0]; exact a5) a5 (by rw [l0]; decide) (Nat.le_trans (B0.getD _) (by decide)) (by decide)
  have g2 := laB1_run (a0 := .ref 0) (tx := wrapP (dressedP d) (a % 5)) (sd := sd0) (ts := [(sd0.getD (a % 5) 0, 1)]) (p := a / 5 % 5) (O0 := .list [.int a, .int b, .int c, .int d]) (O4 := .list (vS [[34, 40, 34], [92], [34, 41, 40, 34], [34, 92, 34, 41, 34]])) (j5 := none) (j6 := none) (j7 := none) (j8 := none) (j9 := none) (j10 := none) (by rw [wrap_len, l0]; exact a55) a55 (by rw [wrap_len, l0]; decide) (Nat.le_trans (B1.getD _) (by decide)) (by decide : 1 ≤ 1000)
  have nm : ∀ {i : Nat} {v : V} {l : List O} {ρ : Env1}, i ≤ 200 → ([.int a, .int b, .int c, .int d] : List V)[i]? = some v → k2 fIdx (kVar 0) (kV (.int i)) (some (.ref 0) :: ρ) (.list [.int a, .int b, .int c, .int d] :: l) = some (v, .list [.int a, .int b, .int c, .int d] :: l) := fun hi hv => r2 rfl rfl (oIdxL rfl hi hv)
  refine runF_ret (vs := [.ref 0]) (σ0 := [.list [.int a, .int b, .int c, .int d]]) (σ := σ3) (ids := [3]) rfl
    (sNext (iAsg rfl rfl) (sNext (iAsg rfl rfl) (sNext (iAsg rfl rfl) (sNext (iAsg (r2 (nm (i := 3) (by decide) rfl) rfl (oMod d 5 (by decide))) rfl) (sNext (laS0_run hd rfl)
      (sNext (iFor (rEs (rCons (r2 (nm (i := 0) (by decide) rfl) rfl (oMod a 5 (by decide))) (rOne (r2 (r2 (nm (i := 0) (by decide) rfl) rfl (oDiv a 5 (by decide) (by omega))) rfl (oMod _ 5 (by decide))))) rfl) rfl (fo_next rfl g1 (fo_next rfl g2 rfl)))
      (sNext (iFor (rEs (rCons (rEs (rCons (nm (i := 1) (by decide) rfl) (rOne rfl)) rfl) (rOne (rEs (rCons (nm (i := 2) (by decide) rfl) (rOne rfl)) rfl))) rfl) rfl (fo_next rfl q1 (fo_next (ρ := r1.1) (σ := r1.2) hρ2 q2 rfl)))
        (sStop (iRet (rEs (rCons (r2 (rMeth rfl rfl (rOne rfl) (oJoin h1 (len_ok' (Nat.le_trans hsum (by decide))))) rfl (oAddS (y := [59]) (len_ok' ?_))) (rOne rfl)) rfl))))))))))
    (frz_tup (frzL_cons (a := []) rfl (frzL_cons (a := [3]) (b := []) (frz_list (ids := []) h3 (frzL_Ties _ _ _)) rfl))) ?_ rfl
  · rw [joinS_nil, List.length_flatten]; exact Nat.le_trans (Nat.succ_le_succ hsum) (by decide)
  · have := same_up (a := some 0) (n := 0) [.list [.int a, .int b, .int c, .int d]] (σ' := σ3) fun k o e => by
      cases k with
      | zero => cases e; exact h0
      | succ k => cases e
    show (true && true && sameAll (some 0) 0 [.list [.int a, .int b, .int c, .int d]] σ3) = true
    rw [this]; rfl
end
section
set_option backward.match.sparseCases false
open PySem
theorem rngGo_N (n : Nat) : ∀ (a : Nat), rngGo n (a : Int) 1 = (List.range' a n).map fun (i : Nat) => V.int (i : Int) := by
  induction n with
  | zero => exact fun _ => rfl
  | succ n ih => exact fun a => congrArg (V.int a :: ·) (ih (a + 1))
theorem rngLen_N (n : Nat) : rngLen 0 (n : Int) 1 = n := by
  unfold rngLen
  rw [if_pos (by decide)]
  cases n with
  | zero => rfl
  | succ n => rw [if_pos (show (0 : Int) < ((n + 1 : Nat) : Int) by omega), Int.ediv_one]; omega
theorem iter_rng (σ : St) (n : Nat) : mkIter σ (.rng 0 (n : Int) 1) = some (.vs ((List.range n).map fun (i : Nat) => V.int (i : Int))) := by
  show some (It.vs (rngGo (rngLen 0 (n : Int) 1) ((0 : Nat) : Int) 1)) = _
  rw [rngLen_N, rngGo_N, List.range_eq_range']
theorem rangeB {σ : St} {n : Nat} (h : n ≤ 100000) : biV .range [.int (n : Int)] σ = some (.rng 0 (n : Int) 1, σ) :=
  congrArg (Option.map fun v => (v, σ)) (if_pos ⟨(by decide : (0 : Int).natAbs ≤ 100000), by rw [Int.natAbs_natCast]; exact h, by decide, by decide⟩)
theorem oIdxS {s : List Nat} {i c : Nat} {σ : St} (hs : s.length ≤ 100000) (hc : s[i]? = some c) : fIdx (.str s) (.int (i : Int)) σ = some (.str [c], σ) := by
  have hi := lk_lt hc
  show Option.map _ (if (decide ((i : Int).natAbs ≤ 1000000) && decide (s.length ≤ 100000)) = true then (if 0 ≤ (i : Int) then s[(i : Int).toNat]?.map fun c => V.str [c] else _) else none) = _
  rw [if_pos (Bool.and_eq_true_iff.mpr ⟨decide_eq_true (by rw [Int.natAbs_natCast]; omega), decide_eq_true hs⟩), if_pos (Int.natCast_nonneg i), Int.toNat_natCast, hc]; rfl
theorem tOrB {t : MT} {ρ : Env1} {σ σ1 : St} {k : Bool} (h : t ρ σ = some (k, σ1)) : tCons false t (tNil false) ρ σ = some (k, σ1) := by
  cases k with
  | true => exact tOr1 h
  | false => exact tOr0 h rfl
noncomputable def IsCheck (G : GX) : Prop := ∀ y : List Nat, y.length ≤ 200 → G.F 6 [.str y] = some (.bool (chkP 0 false (stripP y)), 0)
noncomputable def paT (G : GX) : MT := tCons false (tCmp .Eq (k2 fIdx (kVar 1) (kVar 5)) (kV (.int 40))) (tCons false (tNot (tV (kEs (callF G 6) (kCons (k3 fSlB (kVar 0) (k2 fIdx (kVar 2) (kVar 4)) (k2 (binV .Add) (k2 fIdx (kVar 2) (kVar 5)) (kV (.int 1)))) kNil)))) (tNil false))
noncomputable def paW : MS := sCons (sAug 5 .Add (kV (.int 1))) sNil
noncomputable def paB (G : GX) : MS := sCons (sIf (tCmp .Eq (k2 fIdx (kVar 1) (kVar 4)) (kV (.int 40))) (sCons (sAsg 5 (k2 (binV .Add) (kVar 4) (kV (.int 1)))) (sCons (sWh (paT G) paW) (sCons (sExpr (kMeth .append (kVar 3) (kCons (kEs fTup (kCons (kVar 4) (kCons (kVar 5) kNil))) kNil))) sNil))) sNil) sNil
noncomputable def paI : MT := tCons true (tCmp .In (k2 fIdx (kVar 2) (kVar 1)) (kV (.str [40, 41]))) (tNil true)
noncomputable def paC : ME := kLcomp [(2, 0)] 3 1 (kEs (biV .range) (kCons (kEs (biV .len) (kCons (kVar 0) kNil)) kNil)) paI (kVar 1)
noncomputable def b_pa (G : GX) : MS := sCons (sAsg 2 paC) (sCons (sAsg 3 (kEs fList kNil)) (sCons (sFor 4 (kEs (biV .range) (kCons (kEs (biV .len) (kCons (kVar 1) kNil)) kNil)) (paB G) sNil) (sCons (sRet (kVar 3)) sNil)))
noncomputable def uGo (left places signs : List Nat) (t : Nat) : Nat → Nat → Option Nat
  | 0, _ => none
  | f + 1, u => (signs[u]?).bind fun s => if s = 40 then uGo left places signs t f (u + 1) else (places[t]?).bind fun a => (places[u]?).bind fun b =>
      if a ≤ left.length ∧ b + 1 ≤ left.length then (if chkP 0 false (stripP (cut left a (b + 1))) = true then some u else uGo left places signs t f (u + 1)) else none
noncomputable abbrev vP (l : List (Nat × Nat)) : List V := vTies l
theorem int_ne {a b : Nat} (h : a ≠ b) : ((a : Int) == (b : Int)) = false := beq_eq_false_iff_ne.mpr fun q => h (Int.ofNat.inj q)
section
variable {G : GX} {left places signs : List Nat} {t u s : Nat} {acc res : List (Nat × Nat)} {o2 : O} {pr : V}
noncomputable abbrev paF (left : List Nat) (pr : V) (t : Nat) (j : Option V) : Env1 := [some (.str left), some (.ref 0), some (.ref 1), some pr, some (.int t), j]
noncomputable abbrev paS (signs places : List Nat) (o2 : O) : St := [.list (vI signs), .list (vI places), o2]
theorem mI {l : List Nat} {i a : Nat} (h : l[i]? = some a) : (vI l)[i]? = some (.int a) := List.getElem?_map.trans (congrArg (Option.map _) h)
theorem paT1 (hu : signs[u]? = some 40) (hu2 : u ≤ 200) : paT G (paF left pr t (some (.int u))) (paS signs places o2) = some (true, paS signs places o2) :=
  tOr1 (tC (r2 rfl rfl (oIdxL (l := vI signs) rfl hu2 (mI hu))) rfl rfl)
theorem paT2 (hG : IsCheck G) {a b : Nat} (hl : left.length ≤ 200) (hu : signs[u]? = some s) (hu2 : u ≤ 200) (ht2 : t ≤ 200) (hs : s ≠ 40) (ha : places[t]? = some a) (hb : places[u]? = some b) (ha2 : a ≤ left.length) (hb2 : b + 1 ≤ left.length) :
    paT G (paF left pr t (some (.int u))) (paS signs places o2) = some (!(chkP 0 false (stripP (cut left a (b + 1)))), paS signs places o2) :=
  tOr0 (tC (op := .Eq) (y := .int ((40 : Nat) : Int)) (r2 rfl rfl (oIdxL (l := vI signs) rfl hu2 (mI hu))) rfl (congrArg some (int_ne hs))) (tOrB (tN (tVal (rEs (rOne (r3 rfl (r2 rfl rfl (oIdxL (l := vI places) rfl ht2 (mI ha))) (r2 (r2 rfl rfl (oIdxL (l := vI places) rfl hu2 (mI hb))) rfl (oAddN b 1)) (slB ha2 hb2 (by omega))))
    (callF1 (hG (cut left a (b + 1)) (Nat.le_trans (cut_le ..) hl)))) rfl)))
theorem pa_wh (hG : IsCheck G) (hl : left.length ≤ 200) (ht2 : t ≤ 200) (hs : signs.length ≤ 200) (f : Nat) : ∀ {u v m : Nat}, uGo left places signs t f u = some v → f ≤ m →
    wh (fun r => paT G r.1 r.2) paW m (paF left pr t (some (.int u)), paS signs places o2) = some (.next, paF left pr t (some (.int v)), paS signs places o2) := by
  induction f with
  | zero => exact fun h => nomatch h
  | succ f ih =>
    intro u v m h hm
    obtain ⟨m, rfl⟩ := Nat.exists_eq_succ_of_ne_zero (Nat.ne_of_gt (Nat.lt_of_lt_of_le (Nat.succ_pos f) hm))
    have hm := Nat.le_of_succ_le_succ hm
    obtain ⟨s, hu, h⟩ := Option.bind_eq_some_iff.mp h
    have hu2 : u ≤ 200 := Nat.le_trans (Nat.le_of_lt (lk_lt hu)) hs
    by_cases h40 : s = 40
    · subst h40
      exact wh_next (paT1 hu hu2) rfl (ih (u := u + 1) ((if_pos rfl).symm.trans h) hm)
    · obtain ⟨a, ha, h⟩ := Option.bind_eq_some_iff.mp ((if_neg h40).symm.trans h)
      obtain ⟨b, hb, h⟩ := Option.bind_eq_some_iff.mp h
      have hab := ite_c' h
      have h := (if_pos hab).symm.trans h
      have ht := paT2 hG (pr := pr) (o2 := o2) hl hu hu2 ht2 h40 ha hb hab.1 hab.2
      cases hc : chkP 0 false (stripP (cut left a (b + 1))) with
      | true =>
        rw [hc] at h ht
        cases h
        exact wh_end ht
      | false =>
        rw [hc] at h ht
        exact wh_next ht rfl (ih (u := u + 1) h hm)
noncomputable def pairsGo (left places signs : List Nat) : List Nat → List (Nat × Nat) → Option (List (Nat × Nat))
  | [], acc => some acc
  | t :: r, acc => (signs[t]?).bind fun s => if s = 40 then (uGo left places signs t 100 (t + 1)).bind fun u => pairsGo left places signs r (acc ++ [(t, u)]) else pairsGo left places signs r acc
theorem pa_for (hG : IsCheck G) (hl : left.length ≤ 200) (hs : signs.length ≤ 200) (ts : List Nat) : ∀ {acc res : List (Nat × Nat)} {j4 j5 : Option V} {m : Nat}, pairsGo left places signs ts acc = some res → ts.length < m → acc.length + ts.length ≤ 1000 →
    ∃ j4' j5', fo (fun v ρ => setL ρ 4 v) (paB G) sNil m (.vs (vI ts)) ([some (.str left), some (.ref 0), some (.ref 1), some (.ref 2), j4, j5], paS signs places (.list (vP acc))) =
      some (.next, [some (.str left), some (.ref 0), some (.ref 1), some (.ref 2), j4', j5'], paS signs places (.list (vP res))) := by
  induction ts with
  | nil =>
    intro acc res j4 j5 m h hm _
    cases m with
    | zero => cases hm
    | succ m => cases h; exact ⟨j4, j5, rfl⟩
  | cons t ts ih =>
    intro acc res j4 j5 m h hm ha
    cases m with
    | zero => cases hm
    | succ m =>
      have hm := Nat.lt_of_succ_lt_succ hm
      rw [List.length_cons] at ha
      obtain ⟨s, ht, h⟩ := Option.bind_eq_some_iff.mp h
      have ht2 : t ≤ 200 := Nat.le_trans (Nat.le_of_lt (lk_lt ht)) hs
      have hi : ∀ {j5 : Option V}, k2 fIdx (kVar 1) (kVar 4) (paF left (.ref 2) t j5) (paS signs places (.list (vP acc))) = some (.int s, paS signs places (.list (vP acc))) := fun {j5} => r2 rfl rfl (oIdxL (l := vI signs) rfl ht2 (mI ht))
      by_cases h40 : s = 40
      · subst h40
        obtain ⟨u, hu, h⟩ := Option.bind_eq_some_iff.mp ((if_pos rfl).symm.trans h)
        obtain ⟨j4', j5', g⟩ := ih (m := m) (j4 := some (.int t)) (j5 := some (.int u)) h hm (by rw [List.length_append, List.length_singleton]; omega)
        rw [show vP (acc ++ [(t, u)]) = vP acc ++ [.tup [.int t, .int u]] from List.map_append] at g
        exact ⟨j4', j5', fo_next rfl (sLast (iIfT (tC hi rfl rfl) (sNext (iAsg (r2 rfl rfl (oAddN t 1)) rfl) (sNext (iWh (pa_wh hG hl ht2 hs 100 hu (by decide))) (sLast (iExpr (rMeth rfl rfl (rOne (rEs (rCons rfl (rOne rfl)) rfl)) (oApp rfl (len_ok' (by rw [List.length_map]; omega)))))))))) g⟩
      · obtain ⟨j4', j5', g⟩ := ih (m := m) (j4 := some (.int t)) (j5 := j5) ((if_neg h40).symm.trans h) hm (by omega)
        exact ⟨j4', j5', fo_next rfl (sLast (iIfF (tC (y := .int ((40 : Nat) : Int)) hi rfl (congrArg some (int_ne h40))) rfl)) g⟩
noncomputable def isPar (left : List Nat) (i : Nat) : Bool := match left[i]? with
  | some c => c == 40 || c == 41
  | none => false
noncomputable def placesP (left : List Nat) : List Nat := (List.range left.length).filter (isPar left)
noncomputable def parV (left : List Nat) : V → Bool
  | .int i => isPar left i.toNat
  | _ => false
theorem pa_comp (hl : left.length ≤ 200) {o : O} : paC [some (.str left), some (.ref 0), none, none, none, none] [o] = some (.ref 1, [o, .list (vI (placesP left))]) := by
  have h := lc_run (fr := [(2, 0)]) (nv := 3) (X := 1) (ifs := paI) (elt := kVar 1) (ρ := [some (.str left), some (.ref 0), none, none, none, none]) (σ := [o]) (p := parV left) (g := id) (R := fun v => [none, some v, some (.str left)])
    (rEs (rOne (rEs (rOne (a := kVar 0) rfl) (oLen (len_ok' (by omega))))) (rangeB (by omega))) (iter_rng _ left.length) (yl_vs _) (by rw [List.length_map, List.length_range]; omega) (fun v => rfl) fun v hv => by
    obtain ⟨i, hi, rfl⟩ := List.mem_map.mp hv
    obtain ⟨c, hc⟩ : ∃ c, left[i]? = some c := ⟨_, List.getElem?_eq_getElem (List.mem_range.mp hi)⟩
    refine ⟨?_, fun _ => rfl⟩
    have e : parV left (.int (i : Int)) = ([40, 41] : List Nat).contains c := by
      show isPar left i = _
      unfold isPar
      rw [hc]
      show (c == 40 || c == 41) = (c == 40 || (c == 41 || false))
      rw [Bool.or_false]
    have hI : tCmp .In (k2 fIdx (kVar 2) (kVar 1)) (kV (.str [40, 41])) [none, some (.int (i : Int)), some (.str left)] [o] = some (([40, 41] : List Nat).contains c, [o]) := tC (r2 rfl rfl (oIdxS (by omega) hc)) rfl rfl
    show paI [none, some (.int (i : Int)), some (.str left)] [o] = _
    rw [e]
    cases h6 : ([40, 41] : List Nat).contains c with
    | true => exact tAnd1 (hI.trans (by rw [h6])) rfl
    | false => exact tAnd0 (hI.trans (by rw [h6]))
  rw [List.map_id, List.filter_map] at h
  exact h
noncomputable def pairsP (left signs : List Nat) : Option (List (Nat × Nat)) := pairsGo left (placesP left) signs (List.range signs.length) []
theorem pa_run (hG : IsCheck G) (hl : left.length ≤ 200) (hs : signs.length ≤ 200) (h : pairsP left signs = some res) : runF 6 (b_pa G) [.str left, .list (tI signs)] = some (.list (tTies res), 0) := by
  obtain ⟨j4, j5, hf⟩ := pa_for hG hl hs (List.range signs.length) (j4 := none) (j5 := none) (m := 10000) h (by rw [List.length_range]; omega) (by rw [List.length_range]; exact Nat.le_trans (Nat.le_of_eq (Nat.zero_add _)) (by omega))
  have hlen := oLenL (k := 0) (l := vI signs) (σ := paS signs (placesP left) (.list (vP []))) rfl (len_ok' (by rw [List.length_map]; omega))
  rw [List.length_map] at hlen
  refine runF_ret (vs := [.str left, .ref 0]) (σ0 := [.list (vI signs)]) (ids := [2]) ?_ (sNext (iAsg (pa_comp hl) rfl) (sNext (iAsg rfl rfl) (sNext (iFor (rEs (rOne (rEs (rOne rfl) hlen)) (rangeB (by omega))) (iter_rng _ _) hf) (sStop (iRet rfl))))) (frz_list (ids := []) rfl (frzL_Ties _ _ _)) ?_ rfl
  · show ([V.str left, .ref (thaws (tI signs) []).2.length], (thaws (tI signs) []).2 ++ [O.list (thaws (tI signs) []).1]) = _
    rw [thaws_I]; rfl
  · exact (congrArg (true && true && ·) (same_up [.list (vI signs)] (Up.app [.list (vI signs)] [.list (vI (placesP left)), .list (vP res)]))).trans rfl
end
end
section
set_option backward.match.sparseCases false
open PySem
section
variable {o1 o2 : CmpOp} {a b c : ME} {ρ : Env1} {σ σ1 σ2 σ3 : St} {x y z : V} {k : Bool}
theorem t2T (ha : a ρ σ = some (x, σ1)) (hb : b ρ σ1 = some (y, σ2)) (h1 : cmpV σ2 o1 x y = some true) (hc : c ρ σ2 = some (z, σ3)) (h2 : cmpV σ3 o2 y z = some k) : tCmp2 o1 o2 a b c ρ σ = some (k, σ3) :=
  (thn_eq ha).trans ((thn_eq hb).trans (by rw [h1]; exact (thn_eq hc).trans (by rw [h2]; rfl)))
theorem t2F (ha : a ρ σ = some (x, σ1)) (hb : b ρ σ1 = some (y, σ2)) (h1 : cmpV σ2 o1 x y = some false) : tCmp2 o1 o2 a b c ρ σ = some (false, σ2) := (thn_eq ha).trans ((thn_eq hb).trans (by rw [h1]))
theorem cLt (a b : Nat) : cmpV σ .Lt (.int a) (.int b) = some (decide (a < b)) := congrArg some (decide_eq_decide.mpr Int.ofNat_lt)
theorem cLe (a b : Nat) : cmpV σ .LtE (.int a) (.int b) = some (decide (a ≤ b)) := congrArg some (decide_eq_decide.mpr Int.ofNat_le)
theorem cGt (a b : Nat) : cmpV σ .Gt (.int a) (.int b) = some (decide (b < a)) := congrArg some (decide_eq_decide.mpr Int.ofNat_lt)
theorem oAugS {x y : List Nat} (h : x.length + y.length ≤ 100000) : augV .Add (.str x) (.str y) = some (.str (x ++ y)) := if_pos (len_ok' h)
theorem chrN {n : Nat} (h : n < 128) : biV .chr [.int (n : Int)] σ = some (.str [n], σ) := if_pos ⟨Int.natCast_nonneg n, Int.ofNat_lt.mpr h⟩
end
theorem thaws_Ties (ts : List (Nat × Nat)) (σ : St) : thaws (tTies ts) σ = (vTies ts, σ) := by
  induction ts with
  | nil => rfl
  | cons e ts ih => show ((V.tup [.int e.1, .int e.2] :: (thaws (tTies ts) σ).1, (thaws (tTies ts) σ).2) : List V × St) = _; rw [ih]; rfl
noncomputable def woE : ME := kIte (tCmp2 .Lt .LtE (k2 fIdx (k2 fIdx (kVar 1) (kVar 3)) (kV (.int 0))) (kVar 0) (k2 fIdx (k2 fIdx (kVar 1) (kVar 3)) (kV (.int 1)))) (kEs (biV .chr) (kCons (k2 (binV .Add) (kV (.int 65)) (kVar 3)) kNil)) (kEs (biV .chr) (kCons (k2 (binV .Add) (kV (.int 97)) (kVar 3)) kNil))
noncomputable def woB : MS := sCons (sAug 2 .Add woE) sNil
noncomputable def b_wo (G : GX) : MS := sCons (sAsg 2 (kV (.str []))) (sCons (sFor 3 (kEs (biV .range) (kCons (kEs (biV .len) (kCons (kVar 1) kNil)) kNil)) woB sNil) (sCons (sRet (kVar 2)) sNil))
noncomputable def letP (spot : Nat) (ps : List (Nat × Nat)) (k : Nat) : Nat := if (ps.getD k (0, 0)).1 < spot ∧ spot ≤ (ps.getD k (0, 0)).2 then 65 + k else 97 + k
noncomputable def wordP (spot : Nat) (ps : List (Nat × Nat)) : List Nat := (List.range ps.length).map (letP spot ps)
theorem wo_let {spot k : Nat} {ps : List (Nat × Nat)} {w : Option V} (hk : k < ps.length) (hp : ps.length ≤ 20) : woE [some (.int spot), some (.ref 0), w, some (.int k)] [.list (vP ps)] = some (.str [letP spot ps k], [.list (vP ps)]) := by
  have h1 := getD_map (fun e : Nat × Nat => V.tup [.int (e.1 : Int), .int (e.2 : Int)]) ps k (0, 0) hk
  have hi : ∀ {i : Nat} {v : V}, i ≤ 200 → ([.int (ps.getD k (0, 0)).1, .int (ps.getD k (0, 0)).2] : List V)[i]? = some v → k2 fIdx (k2 fIdx (kVar 1) (kVar 3)) (kV (.int i)) [some (.int spot), some (.ref 0), w, some (.int k)] [.list (vP ps)] = some (v, [.list (vP ps)]) := fun h h' =>
    r2 (r2 rfl rfl (oIdxL rfl (by omega) h1)) rfl (oIdxT h h')
  unfold letP
  by_cases c1 : (ps.getD k (0, 0)).1 < spot
  · by_cases c2 : spot ≤ (ps.getD k (0, 0)).2
    · rw [if_pos ⟨c1, c2⟩]
      exact rIteT (t2T (hi (i := 0) (by decide) rfl) rfl ((cLt _ _).trans (congrArg some (decide_eq_true c1))) (hi (i := 1) (by decide) rfl) ((cLe _ _).trans (congrArg some (decide_eq_true c2)))) (rEs (rOne (r2 rfl rfl (oAddN 65 k))) (chrN (by omega)))
    · rw [if_neg fun h => c2 h.2]
      exact rIteF (t2T (hi (i := 0) (by decide) rfl) rfl ((cLt _ _).trans (congrArg some (decide_eq_true c1))) (hi (i := 1) (by decide) rfl) ((cLe _ _).trans (congrArg some (decide_eq_false c2)))) (rEs (rOne (r2 rfl rfl (oAddN 97 k))) (chrN (by omega)))
  · rw [if_neg fun h => c1 h.1]
    exact rIteF (t2F (hi (i := 0) (by decide) rfl) rfl ((cLt _ _).trans (congrArg some (decide_eq_false c1)))) (rEs (rOne (r2 rfl rfl (oAddN 97 k))) (chrN (by omega)))
theorem wo_for {spot : Nat} {ps : List (Nat × Nat)} (hp : ps.length ≤ 20) (ks : List Nat) : ∀ {w : List Nat} {j : Option V} {m : Nat}, (∀ k ∈ ks, k < ps.length) → w.length + ks.length ≤ 1000 → ks.length < m →
    ∃ j', fo (fun v ρ => setL ρ 3 v) woB sNil m (.vs (vI ks)) ([some (.int spot), some (.ref 0), some (.str w), j], [.list (vP ps)]) = some (.next, [some (.int spot), some (.ref 0), some (.str (w ++ ks.map (letP spot ps))), j'], [.list (vP ps)]) := by
  induction ks with
  | nil =>
    intro w j m _ _ hm
    cases m with
    | zero => cases hm
    | succ m => exact ⟨j, by rw [List.map_nil, List.append_nil]; rfl⟩
  | cons k ks ih =>
    intro w j m hk hw hm
    cases m with
    | zero => cases hm
    | succ m =>
      rw [List.length_cons] at hw
      obtain ⟨j', h⟩ := ih (w := w ++ [letP spot ps k]) (j := some (.int k)) (m := m) (fun k' h => hk k' (List.mem_cons_of_mem _ h)) (by rw [List.length_append, List.length_singleton]; omega) (Nat.lt_of_succ_lt_succ hm)
      rw [List.map_cons, List.append_cons]
      exact ⟨j', fo_next rfl (sLast (iAug rfl (wo_let (hk k List.mem_cons_self) hp) (oAugS (by rw [List.length_singleton]; omega)) rfl)) h⟩
theorem wo_run {G : GX} {spot : Nat} {ps : List (Nat × Nat)} (hp : ps.length ≤ 20) : runF 4 (b_wo G) [.int spot, .list (tTies ps)] = some (.str (wordP spot ps), 0) := by
  obtain ⟨j, h⟩ := wo_for (spot := spot) hp (List.range ps.length) (w := []) (j := none) (m := 10000) (fun k hk => List.mem_range.mp hk) (by rw [List.length_range, List.length_nil]; omega) (by rw [List.length_range]; omega)
  have hlen := oLenL (k := 0) (l := vP ps) (σ := [.list (vP ps)]) rfl (len_ok' (by rw [List.length_map]; omega))
  rw [List.length_map] at hlen
  refine runF_ret (vs := [.int spot, .ref 0]) (σ0 := [.list (vP ps)]) (v := .str (wordP spot ps)) (ids := []) ?_ (sNext (iAsg rfl rfl) (sNext (iFor (rEs (rOne (rEs (rOne rfl) hlen)) (rangeB (by omega))) (iter_rng _ _) h) (sStop (iRet rfl)))) rfl ?_ rfl
  · show ([V.int spot, .ref (thaws (tTies ps) []).2.length], (thaws (tTies ps) []).2 ++ [O.list (thaws (tTies ps) []).1]) = _
    rw [thaws_Ties]; rfl
  · exact (congrArg (true && true && ·) (same_up [.list (vP ps)] (fun _ _ h => h))).trans rfl
noncomputable def b_su (G : GX) : MS := sCons (sIf (tCmp .Eq (kVar 0) (kVar 1)) (sCons (sRet (kV (.int 0))) sNil) sNil) (sCons (sIf (tCmp .Eq (kMeth .lower (kVar 0) kNil) (kMeth .lower (kVar 1) kNil)) (sCons (sRet (kG G 2)) sNil) sNil) (sCons (sRet (kG G 1)) sNil))
noncomputable def subP (a b : Nat) : Nat := if a = b then 0 else if lowerC a = lowerC b then 1 else 2
theorem eq1 (x y : Nat) : (([x] : List Nat) == [y]) = (x == y) := by rw [Bool.eq_iff_iff]; simp
theorem cEq1 (x y : Nat) (σ : St) : cmpV σ .Eq (.str [x]) (.str [y]) = some (x == y) := congrArg some (eq1 x y)
theorem kGv {G : GX} {k : Nat} {i : Int} {ρ : Env1} {σ : St} (h : G.gints[k]? = some i) : kG G k ρ σ = some (.int i, σ) := congrArg (Option.map fun i => (V.int i, σ)) h
theorem su_run {G : GX} {a b : Nat} (hg : G.gints = [40, 2, 1]) (ha : a < 128) (hb : b < 128) : runF 2 (b_su G) [.str [a], .str [b]] = some (.int (subP a b), 0) := by
  have low : ∀ {c i : Nat} {ρ : Env1}, c < 128 → kVar i ρ [] = some (.str [c], []) → kMeth .lower (kVar i) kNil ρ [] = some (.str [lowerC c], []) := fun hc h => rMeth h rfl rfl (if_pos hc)
  unfold subP
  by_cases h1 : a = b
  · rw [if_pos h1]
    exact runF_ret (vs := [.str [a], .str [b]]) (σ0 := []) (v := .int 0) (ids := []) rfl (sStop (iIfT (tC rfl rfl ((cEq1 _ _ _).trans (congrArg some (beq_iff_eq.mpr h1)))) (sStop (iRet rfl)))) rfl rfl rfl
  · rw [if_neg h1]
    by_cases h2 : lowerC a = lowerC b
    · rw [if_pos h2]
      exact runF_ret (vs := [.str [a], .str [b]]) (σ0 := []) (v := .int 1) (ids := []) rfl (sNext (iIfF (tC rfl rfl ((cEq1 _ _ _).trans (congrArg some (beq_eq_false_iff_ne.mpr h1)))) rfl) (sStop (iIfT (tC (low ha rfl) (low hb rfl) ((cEq1 _ _ _).trans (congrArg some (beq_iff_eq.mpr h2)))) (sStop (iRet (kGv (by rw [hg]; rfl))))))) rfl rfl rfl
    · rw [if_neg h2]
      exact runF_ret (vs := [.str [a], .str [b]]) (σ0 := []) (v := .int 2) (ids := []) rfl (sNext (iIfF (tC rfl rfl ((cEq1 _ _ _).trans (congrArg some (beq_eq_false_iff_ne.mpr h1)))) rfl) (sNext (iIfF (tC (low ha rfl) (low hb rfl) ((cEq1 _ _ _).trans (congrArg some (beq_eq_false_iff_ne.mpr h2)))) rfl) (sStop (iRet (kGv (by rw [hg]; rfl)))))) rfl rfl rfl
end
section
set_option backward.match.sparseCases false
open PySem
noncomputable def lvT1 : MT := tCons true (tV (k2 fSlL (kVar 0) (kVar 3))) (tCons true (tV (k2 fSlL (kVar 1) (kVar 3))) (tCons true (tCmp .Eq (k2 fIdx (kVar 0) (kVar 3)) (k2 fIdx (kVar 1) (kVar 3))) (tNil true)))
noncomputable def lvW1 : MS := sCons (sAug 3 .Add (kV (.int 1))) sNil
noncomputable def lvT2 (G : GX) : MT := tCons true (tV (k2 (fSlR G) (kVar 0) (kOrN (kVar 4)))) (tCons true (tV (k2 (fSlR G) (kVar 1) (kOrN (kVar 4)))) (tCons true (tCmp .Eq (k2 fIdx (kVar 0) (k2 (binV .Sub) (kVar 4) (kV (.int 1)))) (k2 fIdx (kVar 1) (k2 (binV .Sub) (kVar 4) (kV (.int 1))))) (tNil true)))
noncomputable def lvW2 : MS := sCons (sAug 4 .Sub (kV (.int 1))) sNil
noncomputable def lvIn (G : GX) : MS := sCons (sAsg 12 (k2 (binV .Add) (kVar 9) (kEs (callF G 0) (kCons (kVar 8) (kCons (k2 fIdx (kVar 0) (kVar 11)) kNil))))) (sCons (sAsg 9 (k2 fIdx (kVar 5) (kVar 11))) (sCons (sAsg 13 (k2 (binV .Add) (kEs (biV .min2) (kCons (kVar 6) (kCons (kVar 9) kNil))) (kG G 1)))
  (sCons (sAsg 6 (kEs (biV .min2) (kCons (kVar 13) (kCons (kVar 12) kNil)))) (sCons (sSub (kVar 5) (kVar 11) (kVar 6)) (sCons (sIf (tCmp .Lt (kVar 6) (kVar 10)) (sCons (sAsg 10 (kVar 6)) sNil) sNil) sNil)))))
noncomputable def lvRng (v : Nat) : ME := kEs (biV .range) (kCons (kEs (biV .len) (kCons (kVar v) kNil)) kNil)
noncomputable def lvOut (G : GX) : MS := sCons (sAsg 8 (k2 fIdx (kVar 1) (kVar 7))) (sCons (sAsg2 9 6 (k2 (binV .Mult) (kVar 7) (kG G 1))) (sCons (sAsg 10 (kV (.int 9223372036854775807))) (sCons (sFor 11 (lvRng 0) (lvIn G) sNil)
  (sCons (sIf (tCmp .Gt (kVar 10) (kVar 2)) (sCons (sRet (k2 (binV .Add) (kVar 2) (kV (.int 1)))) sNil) sNil) sNil))))
noncomputable def lvEnd (G : GX) : MS := sCons (sAsg 5 (kEs (biV .list) (kCons (kEs (biV .range) (kCons (kG G 1) (kCons (k2 (binV .Mult) (kG G 1) (k2 (binV .Add) (kEs (biV .len) (kCons (kVar 0) kNil)) (kV (.int 1)))) (kCons (kG G 1) kNil)))) kNil))) (sCons (sAsg 6 (kV (.int 0))) (sCons (sFor 7 (lvRng 1) (lvOut G) sNil) (sCons (sRet (kVar 6)) sNil)))
noncomputable def lvChk (G : GX) (k : MS) : MS := sCons (sIf (tCons false (tNot (tV (kVar 0))) (tCons false (tNot (tV (kVar 1))) (tNil false))) (sCons (sRet (k2 (binV .Mult) (kG G 1) (k2 (binV .Add) (kEs (biV .len) (kCons (kVar 0) kNil)) (kEs (biV .len) (kCons (kVar 1) kNil))))) sNil) sNil)
  (sCons (sIf (tCons false (tCmp .Gt (kEs (biV .len) (kCons (kVar 0) kNil)) (kG G 0)) (tCons false (tCmp .Gt (kEs (biV .len) (kCons (kVar 1) kNil)) (kG G 0)) (tNil false))) (sCons (sRet (k2 (binV .Add) (kVar 2) (kV (.int 1)))) sNil) sNil)
  (sCons (sIf (tCmp .Lt (kEs (biV .len) (kCons (kVar 1) kNil)) (kEs (biV .len) (kCons (kVar 0) kNil))) (sCons (sSwap 0 1 (kVar 1) (kVar 0)) sNil) sNil)
  (sCons (sIf (tCmp .Gt (k2 (binV .Mult) (k2 (binV .Sub) (kEs (biV .len) (kCons (kVar 1) kNil)) (kEs (biV .len) (kCons (kVar 0) kNil))) (kG G 1)) (kVar 2)) (sCons (sRet (k2 (binV .Add) (kVar 2) (kV (.int 1)))) sNil) sNil) k)))
noncomputable def b_lv (G : GX) : MS := sCons (sIf (tCmp .Eq (kVar 0) (kVar 1)) (sCons (sRet (kV (.int 0))) sNil) sNil) (sCons (sAsg 3 (kV (.int 0))) (sCons (sWh lvT1 lvW1) (sCons (sAsg 0 (k2 fSlL (kVar 0) (kVar 3))) (sCons (sAsg 1 (k2 fSlL (kVar 1) (kVar 3)))
   (sCons (sAsg 4 (kV (.int 0))) (sCons (sWh (lvT2 G) lvW2) (sCons (sAsg 0 (k2 (fSlR G) (kVar 0) (kOrN (kVar 4)))) (sCons (sAsg 1 (k2 (fSlR G) (kVar 1) (kOrN (kVar 4)))) (lvChk G (lvEnd G))))))))))
noncomputable def mnP (a b : Nat) : Nat := if b < a then b else a
structure Cell where
  d : Nat
  r : Nat
  m : Nat
  row : List Nat
noncomputable def cellP (a : List Nat) (c : Nat) (q : Cell) (i : Nat) : Cell :=
  let s := q.d + subP c (a.getD i 0)
  let d := q.row.getD i 0
  let r := mnP (mnP q.r d + 2) s
  ⟨d, r, if r < q.m then r else q.m, q.row.set i r⟩
noncomputable def IsSub (G : GX) : Prop := ∀ a b : Nat, a < 128 → b < 128 → G.F 0 [.str [a], .str [b]] = some (.int (subP a b), 0)
theorem min2N {σ : St} (a b : Nat) : biV .min2 [.int (a : Int), .int (b : Int)] σ = some (.int (mnP a b : Nat), σ) := by
  show some (V.int (if (b : Int) < (a : Int) then (b : Int) else (a : Int)), σ) = _
  unfold mnP
  by_cases h : b < a
  · rw [if_pos h, if_pos (Int.ofNat_lt.mpr h)]
  · rw [if_neg h, if_neg fun q => h (Int.ofNat_lt.mp q)]
theorem getN {l : List Nat} {i : Nat} (h : i < l.length) : l[i]? = some (l.getD i 0) := by rw [List.getD_eq_getElem?_getD, List.getElem?_eq_getElem h]; rfl
theorem getLt {l : List Nat} {i n : Nat} (h : ∀ x ∈ l, x < n) (hi : i < l.length) : l.getD i 0 < n := h _ (List.mem_of_getElem? (getN hi))
section
variable {G : GX} {a b : List Nat} {vb vm : V} {mc c i k r : Nat} {q : Cell} {row : List Nat} {v3 v4 v7 j8 j9 j10 j11 j12 j13 : Option V}
theorem lvIn_run (hG : IsSub G) (hg : G.gints = [40, 2, 1]) (hi : i < a.length) (hr : q.row.length = a.length) (ha : ∀ x ∈ a, x < 128) (hc : c < 128) (hl : a.length ≤ 100) :
    ∃ s t : Option V, lvIn G ([some (.str a), some vb, some vm, v3, v4, some (.ref 0), some (.int q.r), v7, some (.str [c]), some (.int q.d), some (.int q.m), some (.int i), j12, j13], [.list (vI q.row)]) =
      some (.next, [some (.str a), some vb, some vm, v3, v4, some (.ref 0), some (.int (cellP a c q i).r), v7, some (.str [c]), some (.int (cellP a c q i).d), some (.int (cellP a c q i).m), some (.int i), s, t], [.list (vI (cellP a c q i).row)]) := by
  have hs : ∀ σ : St, callF G 0 [.str [c], .str [a.getD i 0]] σ = some (.int (subP c (a.getD i 0) : Nat), σ) := fun σ => call_of (t := .int _) (ids := []) rfl (by decide) (hG c _ hc (getLt ha hi)) rfl
  have hI : ∀ {ρ : Env1}, ρ[5]? = some (some (.ref 0)) → ρ[11]? = some (some (.int (i : Int))) → k2 fIdx (kVar 5) (kVar 11) ρ [.list (vI q.row)] = some (.int (q.row.getD i 0 : Nat), [.list (vI q.row)]) := fun h5 h11 => r2 (by unfold kVar; rw [h5]) (by unfold kVar; rw [h11]) (oIdxL rfl (by omega) (mI (getN (by omega))))
  have hG1 : ∀ {ρ : Env1} {σ : St}, kG G 1 ρ σ = some (.int 2, σ) := kGv (by rw [hg]; rfl)
  unfold cellP
  dsimp only
  generalize hd : q.row.getD i 0 = d at hI
  generalize hr' : mnP (mnP q.r d + 2) (q.d + subP c (a.getD i 0)) = rr
  have hm : ∀ σ : St, biV .min2 [.int ((mnP q.r d + 2 : Nat) : Int), .int ((q.d + subP c (a.getD i 0) : Nat) : Int)] σ = some (.int (rr : Int), σ) := fun σ => (min2N _ _).trans (by rw [hr'])
  rw [show vI (q.row.set i rr) = (vI q.row).set i (.int rr) from List.map_set]
  have go : ∀ {ρ : Env1} {ss : MS} {w : Option (Fl × Env1 × St)}, ss ([some (.str a), some vb, some vm, v3, v4, some (.ref 0), some (.int rr), v7, some (.str [c]), some (.int d), some (.int q.m), some (.int i), some (.int (q.d + subP c (a.getD i 0) : Nat)), some (.int (mnP q.r d + 2 : Nat))], [.list ((vI q.row).set i (.int rr))]) = w →
      sCons (sAsg 12 (k2 (binV .Add) (kVar 9) (kEs (callF G 0) (kCons (kVar 8) (kCons (k2 fIdx (kVar 0) (kVar 11)) kNil))))) (sCons (sAsg 9 (k2 fIdx (kVar 5) (kVar 11))) (sCons (sAsg 13 (k2 (binV .Add) (kEs (biV .min2) (kCons (kVar 6) (kCons (kVar 9) kNil))) (kG G 1)))
        (sCons (sAsg 6 (kEs (biV .min2) (kCons (kVar 13) (kCons (kVar 12) kNil)))) (sCons (sSub (kVar 5) (kVar 11) (kVar 6)) ss)))) ([some (.str a), some vb, some vm, v3, v4, some (.ref 0), some (.int q.r), v7, some (.str [c]), some (.int q.d), some (.int q.m), some (.int i), j12, j13], [.list (vI q.row)]) = w := fun {ρ ss w} h =>
    sNext (iAsg (r2 rfl (rEs (rCons rfl (rOne (r2 rfl rfl (oIdxS (by omega) (getN hi))))) (hs _)) (oAddN _ _)) rfl) (sNext (iAsg (hI rfl rfl) rfl) (sNext (iAsg (r2 (rEs (rCons rfl (rOne rfl)) (min2N q.r d)) hG1 (oAddN _ 2)) rfl) (sNext (iAsg (rEs (rCons rfl (rOne rfl)) (hm _)) rfl) (sNext (iSub rfl rfl rfl (oPutL (l := vI q.row) rfl (by omega) (by rw [List.length_map]; omega))) h))))
  by_cases h : rr < q.m
  · rw [if_pos h]
    exact ⟨_, _, go (ρ := []) (sLast (iIfT (tC rfl rfl ((cLt _ _).trans (congrArg some (decide_eq_true h)))) (sLast (iAsg rfl rfl))))⟩
  · rw [if_neg h]
    exact ⟨_, _, go (ρ := []) (sLast (iIfF (tC rfl rfl ((cLt _ _).trans (congrArg some (decide_eq_false h)))) rfl))⟩
theorem cell_len : (cellP a c q i).row.length = q.row.length := List.length_set
theorem lvIn_for (hG : IsSub G) (hg : G.gints = [40, 2, 1]) (ha : ∀ x ∈ a, x < 128) (hc : c < 128) (hl : a.length ≤ 100) (is : List Nat) : ∀ {q : Cell} {j11 j12 j13 : Option V} {m : Nat}, (∀ i ∈ is, i < a.length) → q.row.length = a.length → is.length < m →
    ∃ j11' j12' j13', fo (fun v ρ => setL ρ 11 v) (lvIn G) sNil m (.vs (vI is)) ([some (.str a), some vb, some vm, v3, v4, some (.ref 0), some (.int q.r), v7, some (.str [c]), some (.int q.d), some (.int q.m), j11, j12, j13], [.list (vI q.row)]) =
      some (.next, [some (.str a), some vb, some vm, v3, v4, some (.ref 0), some (.int (is.foldl (cellP a c) q).r), v7, some (.str [c]), some (.int (is.foldl (cellP a c) q).d), some (.int (is.foldl (cellP a c) q).m), j11', j12', j13'], [.list (vI (is.foldl (cellP a c) q).row)]) ∧ (is.foldl (cellP a c) q).row.length = a.length := by
  induction is with
  | nil =>
    intro q j11 j12 j13 m _ hr hm
    cases m with
    | zero => cases hm
    | succ m => exact ⟨j11, j12, j13, rfl, hr⟩
  | cons i is ih =>
    intro q j11 j12 j13 m hi hr hm
    cases m with
    | zero => cases hm
    | succ m =>
      obtain ⟨s, t, h1⟩ := lvIn_run (vb := vb) (vm := vm) (v3 := v3) (v4 := v4) (v7 := v7) (j12 := j12) (j13 := j13) hG hg (hi i List.mem_cons_self) hr ha hc hl
      obtain ⟨j11', j12', j13', h2, h3⟩ := ih (q := cellP a c q i) (j11 := some (.int i)) (j12 := s) (j13 := t) (m := m) (fun i h => hi i (List.mem_cons_of_mem _ h)) (cell_len.trans hr) (Nat.lt_of_succ_lt_succ hm)
      exact ⟨j11', j12', j13', fo_next rfl h1 h2, h3⟩
noncomputable def rowP (a : List Nat) (c k : Nat) (row : List Nat) : Cell := (List.range a.length).foldl (cellP a c) ⟨2 * k, 2 * k, 9223372036854775807, row⟩
theorem lvRng_run {v : Nat} {x : List Nat} {ρ : Env1} {σ : St} (h : kVar v ρ σ = some (.str x, σ)) (hx : x.length ≤ 100) : lvRng v ρ σ = some (.rng 0 (x.length : Int) 1, σ) := rEs (rOne (rEs (rOne h) (oLen (len_ok' (by omega))))) (rangeB (by omega))
theorem lvOut_turn (hG : IsSub G) (hg : G.gints = [40, 2, 1]) (ha : ∀ x ∈ a, x < 128) (hb : ∀ x ∈ b, x < 128) (hl : a.length ≤ 100) (hbl : b.length ≤ 100) (hk : k < b.length) (hr : row.length = a.length) :
    ∃ j8' j9' j10' j11' j12' j13', lvOut G ([some (.str a), some (.str b), some (.int mc), v3, v4, some (.ref 0), some (.int r), some (.int k), j8, j9, j10, j11, j12, j13], [.list (vI row)]) =
      some (if mc < (rowP a (b.getD k 0) k row).m then .ret (.int (mc + 1 : Nat)) else .next, [some (.str a), some (.str b), some (.int mc), v3, v4, some (.ref 0), some (.int (rowP a (b.getD k 0) k row).r), some (.int k), j8', j9', j10', j11', j12', j13'], [.list (vI (rowP a (b.getD k 0) k row).row)]) ∧ (rowP a (b.getD k 0) k row).row.length = a.length := by
  obtain ⟨j11', j12', j13', hf, hrow⟩ := lvIn_for (vb := .str b) (vm := .int mc) (v3 := v3) (v4 := v4) (v7 := some (.int k)) hG hg ha (getLt hb hk) hl (List.range a.length) (q := ⟨2 * k, 2 * k, 9223372036854775807, row⟩) (j11 := j11) (j12 := j12) (j13 := j13) (m := 10000) (fun i h => List.mem_range.mp h) hr (by rw [List.length_range]; omega)
  have go : ∀ {ss : MS} {w : Option (Fl × Env1 × St)}, ss ([some (.str a), some (.str b), some (.int mc), v3, v4, some (.ref 0), some (.int (rowP a (b.getD k 0) k row).r), some (.int k), some (.str [b.getD k 0]), some (.int (rowP a (b.getD k 0) k row).d), some (.int (rowP a (b.getD k 0) k row).m), j11', j12', j13'], [.list (vI (rowP a (b.getD k 0) k row).row)]) = w →
      sCons (sAsg 8 (k2 fIdx (kVar 1) (kVar 7))) (sCons (sAsg2 9 6 (k2 (binV .Mult) (kVar 7) (kG G 1))) (sCons (sAsg 10 (kV (.int 9223372036854775807))) (sCons (sFor 11 (lvRng 0) (lvIn G) sNil) ss))) ([some (.str a), some (.str b), some (.int mc), v3, v4, some (.ref 0), some (.int r), some (.int k), j8, j9, j10, j11, j12, j13], [.list (vI row)]) = w := fun {ss w} h =>
    sNext (iAsg (r2 rfl rfl (oIdxS (by omega) (getN hk))) rfl) (sNext (iAsg2 (v := .int ((2 * k : Nat) : Int)) (r2 rfl (kGv (i := 2) (by rw [hg]; rfl)) ((if_pos (smallN (by omega))).trans (congrArg (fun i => some (V.int i, _)) (by omega)))) rfl rfl) (sNext (iAsg rfl rfl) (sNext (iFor (lvRng_run rfl hl) (iter_rng _ _) hf) h)))
  have hrow : (rowP a (b.getD k 0) k row).row.length = a.length := hrow
  clear hf
  generalize rowP a (b.getD k 0) k row = q at go hrow ⊢
  by_cases h : mc < q.m
  · rw [if_pos h]
    exact ⟨_, _, _, _, _, _, go (sStop (iIfT (tC rfl rfl ((cGt _ _).trans (congrArg some (decide_eq_true h)))) (sStop (iRet (r2 rfl rfl (oAddN mc 1)))))), hrow⟩
  · rw [if_neg h]
    exact ⟨_, _, _, _, _, _, go (sLast (iIfF (tC rfl rfl ((cGt _ _).trans (congrArg some (decide_eq_false h)))) rfl)), hrow⟩
noncomputable def outP (a b : List Nat) (mc : Nat) : List Nat → Nat → List Nat → Nat
  | [], r, _ => r
  | k :: ks, r, row => if mc < (rowP a (b.getD k 0) k row).m then mc + 1 else outP a b mc ks (rowP a (b.getD k 0) k row).r (rowP a (b.getD k 0) k row).row
theorem lvOut_for (hG : IsSub G) (hg : G.gints = [40, 2, 1]) (ha : ∀ x ∈ a, x < 128) (hb : ∀ x ∈ b, x < 128) (hl : a.length ≤ 100) (hbl : b.length ≤ 100) (ks : List Nat) : ∀ {r : Nat} {row : List Nat} {j7 j8 j9 j10 j11 j12 j13 : Option V} {m : Nat}, (∀ k ∈ ks, k < b.length) → row.length = a.length → ks.length < m →
    ∃ fl ρ σ', fo (fun v ρ => setL ρ 7 v) (lvOut G) sNil m (.vs (vI ks)) ([some (.str a), some (.str b), some (.int mc), v3, v4, some (.ref 0), some (.int r), j7, j8, j9, j10, j11, j12, j13], [.list (vI row)]) = some (fl, ρ, σ') ∧
      (fl = .ret (.int (outP a b mc ks r row : Nat)) ∨ (fl = .next ∧ ρ[6]? = some (some (.int (outP a b mc ks r row : Nat))))) := by
  induction ks with
  | nil =>
    intro r row j7 j8 j9 j10 j11 j12 j13 m _ _ hm
    cases m with
    | zero => cases hm
    | succ m => exact ⟨_, _, _, rfl, .inr ⟨rfl, rfl⟩⟩
  | cons k ks ih =>
    intro r row j7 j8 j9 j10 j11 j12 j13 m hk hr hm
    cases m with
    | zero => cases hm
    | succ m =>
      obtain ⟨j8', j9', j10', j11', j12', j13', h1, h2⟩ := lvOut_turn (mc := mc) (r := r) (v3 := v3) (v4 := v4) (j8 := j8) (j9 := j9) (j10 := j10) (j11 := j11) (j12 := j12) (j13 := j13) hG hg ha hb hl hbl (hk k List.mem_cons_self) hr
      show ∃ (fl : Fl) (ρ : Env1) (σ' : St), _ ∧ (fl = Fl.ret (V.int ((if mc < (rowP a (b.getD k 0) k row).m then mc + 1 else outP a b mc ks (rowP a (b.getD k 0) k row).r (rowP a (b.getD k 0) k row).row : Nat) : Int)) ∨ (fl = Fl.next ∧ ρ[6]? = some (some (V.int ((if mc < (rowP a (b.getD k 0) k row).m then mc + 1 else outP a b mc ks (rowP a (b.getD k 0) k row).r (rowP a (b.getD k 0) k row).row : Nat) : Int)))))
      by_cases hlt : mc < (rowP a (b.getD k 0) k row).m
      · rw [if_pos hlt] at h1 ⊢
        exact ⟨_, _, _, fo_ret rfl h1, .inl rfl⟩
      · rw [if_neg hlt] at h1 ⊢
        obtain ⟨fl, ρ, σ', h3, h4⟩ := ih (r := (rowP a (b.getD k 0) k row).r) (j7 := some (.int k)) (j8 := j8') (j9 := j9') (j10 := j10') (j11 := j11') (j12 := j12') (j13 := j13') (m := m) (fun k h => hk k (List.mem_cons_of_mem _ h)) h2 (Nat.lt_of_succ_lt_succ hm)
        exact ⟨fl, ρ, σ', fo_next rfl h1 h3, h4⟩
theorem rngGo_2 (n : Nat) : ∀ (a : Nat), rngGo n ((2 * a + 2 : Nat) : Int) 2 = vI ((List.range' a n).map fun i => 2 * i + 2) := by
  induction n with
  | zero => exact fun _ => rfl
  | succ n ih => exact fun a => congrArg (V.int ((2 * a + 2 : Nat) : Int) :: ·) (ih (a + 1))
noncomputable def row0 (n : Nat) : List Nat := (List.range' 0 n).map fun i => 2 * i + 2
theorem rngLen_2 (n : Nat) : rngLen 2 ((2 * (n + 1) : Nat) : Int) 2 = n := by
  unfold rngLen
  rw [if_pos (by decide)]
  by_cases h : (2 : Int) < ((2 * (n + 1) : Nat) : Int)
  · rw [if_pos h]; omega
  · rw [if_neg h]; omega
theorem lvEnd_run (hG : IsSub G) (hg : G.gints = [40, 2, 1]) (ha : ∀ x ∈ a, x < 128) (hb : ∀ x ∈ b, x < 128) (hl : a.length ≤ 100) (hbl : b.length ≤ 100) :
    ∃ ρ σ', lvEnd G ([some (.str a), some (.str b), some (.int mc), v3, v4, none, none, none, none, none, none, none, none, none], []) = some (.ret (.int (outP a b mc (List.range b.length) 0 (row0 a.length) : Nat)), ρ, σ') := by
  obtain ⟨fl, ρ, σ', hf, hfl⟩ := lvOut_for (mc := mc) (v3 := v3) (v4 := v4) hG hg ha hb hl hbl (List.range b.length) (r := 0) (row := row0 a.length) (j7 := none) (j8 := none) (j9 := none) (j10 := none) (j11 := none) (j12 := none) (j13 := none) (m := 10000) (fun k h => List.mem_range.mp h) (by unfold row0; rw [List.length_map, List.length_range']) (by rw [List.length_range]; omega)
  have hr : biV .range [.int 2, .int ((2 * (a.length + 1) : Nat) : Int), .int 2] [] = some (.rng 2 ((2 * (a.length + 1) : Nat) : Int) 2, []) := congrArg (Option.map fun v => (v, ([] : St))) (if_pos ⟨(by decide : (2 : Int).natAbs ≤ 100000), by rw [Int.natAbs_natCast]; omega, by decide, by decide⟩)
  have hli : biV .list [.rng 2 ((2 * (a.length + 1) : Nat) : Int) 2] [] = some (.ref 0, [.list (vI (row0 a.length))]) := by
    show (if (decide ((0 : Int) < 2) && lenOk (rngLen 2 ((2 * (a.length + 1) : Nat) : Int) 2)) = true then some (V.ref 0, [O.list (rngGo (rngLen 2 ((2 * (a.length + 1) : Nat) : Int) 2) ((2 * 0 + 2 : Nat) : Int) 2)]) else none) = _
    rw [rngLen_2, rngGo_2, len_ok' (show a.length ≤ 100000 by omega)]; rfl
  have hG1 : ∀ {ρ : Env1} {σ : St}, kG G 1 ρ σ = some (.int 2, σ) := kGv (by rw [hg]; rfl)
  have go : ∀ {w : Option (Fl × Env1 × St)}, sCons (sFor 7 (lvRng 1) (lvOut G) sNil) (sCons (sRet (kVar 6)) sNil) ([some (.str a), some (.str b), some (.int mc), v3, v4, some (.ref 0), some (.int 0), none, none, none, none, none, none, none], [.list (vI (row0 a.length))]) = w → lvEnd G ([some (.str a), some (.str b), some (.int mc), v3, v4, none, none, none, none, none, none, none, none, none], []) = w := fun h =>
    sNext (iAsg (rEs (rOne (rEs (rCons hG1 (rCons (r2 hG1 (r2 (rEs (rOne rfl) (oLen (len_ok' (by omega)))) rfl (oAddN a.length 1)) (show binV .Mult (.int 2) (.int ((a.length + 1 : Nat) : Int)) [] = some (.int ((2 * (a.length + 1) : Nat) : Int), []) from congrArg (fun i => some (V.int i, ([] : St))) (Int.natCast_mul 2 (a.length + 1)).symm)) (rOne hG1))) hr)) hli) rfl) (sNext (iAsg rfl rfl) h)
  rcases hfl with rfl | ⟨rfl, h6⟩
  · exact ⟨_, _, go (sStop (iFor (lvRng_run rfl hbl) (iter_rng _ _) hf))⟩
  · exact ⟨_, _, go (sNext (iFor (lvRng_run rfl hbl) (iter_rng _ _) hf) (sStop (iRet (by unfold kVar; rw [h6]))))⟩
end
end
section
set_option backward.match.sparseCases false
open PySem
theorem emp_len {α : Type} (l : List α) : l.isEmpty = decide (l.length = 0) := by cases l <;> rfl
theorem cut_ge {α : Type} (l : List α) (p : Nat) : (cut l p l.length).length = l.length - p := by rw [cut_drop, List.length_drop]
theorem cut_pre {α : Type} (l : List α) (q : Nat) : (cut l 0 (l.length - q)).length = l.length - q := by
  unfold cut
  rw [List.drop_zero, List.length_take]; omega
theorem tS1 {s : List Nat} (h : s.length ≤ 100) (h' : 0 < s.length) : truV (.str s) = some true := (if_pos (len_ok' (by omega))).trans (by rw [emp_len, decide_eq_false (Nat.ne_of_gt h')]; rfl)
theorem tS0 {s : List Nat} (h' : s.length = 0) : truV (.str s) = some false := (if_pos (len_ok' (by omega))).trans (by rw [emp_len, decide_eq_true h']; rfl)
noncomputable abbrev lvF (a b : List Nat) (mc : Nat) (v3 v4 : Option V) : Env1 := [some (.str a), some (.str b), some (.int mc), v3, v4, none, none, none, none, none, none, none, none, none]
section
variable {G : GX} {a b : List Nat} {p q mc : Nat} {v3 v4 : Option V}
theorem lvT1_run (hab : b.length = a.length) (hl : a.length ≤ 100) (hp : p ≤ a.length) : lvT1 (lvF a b mc (some (.int p)) v4) [] = some (decide (p < a.length) && (a.getD p 0 == b.getD p 0), []) := by
  have sa := slL (σ := []) hp (show a.length ≤ 100000 by omega)
  have sb := slL (σ := []) (show p ≤ b.length by omega) (by omega)
  have ca := cut_ge a p
  have cb := cut_ge b p
  by_cases h : p < a.length
  · have hx : tCmp .Eq (k2 fIdx (kVar 0) (kVar 3)) (k2 fIdx (kVar 1) (kVar 3)) (lvF a b mc (some (.int p)) v4) [] = some (a.getD p 0 == b.getD p 0, []) := tC (r2 rfl rfl (oIdxS (by omega) (getN h))) (r2 rfl rfl (oIdxS (by omega) (getN (by omega)))) (cEq1 _ _ _)
    rw [decide_eq_true h, Bool.true_and]
    refine tAnd1 (tVal (r2 rfl rfl sa) (tS1 (by omega) (by omega))) (tAnd1 (tVal (r2 rfl rfl sb) (tS1 (by omega) (by omega))) ?_)
    cases hb : a.getD p 0 == b.getD p 0 with
    | true => exact tAnd1 (hx.trans (by rw [hb])) rfl
    | false => exact tAnd0 (hx.trans (by rw [hb]))
  · rw [decide_eq_false h, Bool.false_and]
    exact tAnd0 (tVal (r2 rfl rfl sa) (tS0 (by omega)))
noncomputable def preP (a b : List Nat) : Nat → Nat → Nat
  | 0, p => p
  | f + 1, p => if decide (p < a.length) && (a.getD p 0 == b.getD p 0) then preP a b f (p + 1) else p
theorem lvW1_for (hab : b.length = a.length) (hl : a.length ≤ 100) (f : Nat) : ∀ {p m : Nat}, p ≤ a.length → a.length - p ≤ f → f < m →
    wh (fun r => lvT1 r.1 r.2) lvW1 m (lvF a b mc (some (.int p)) v4, []) = some (.next, lvF a b mc (some (.int (preP a b f p : Nat))) v4, []) ∧ preP a b f p ≤ a.length := by
  induction f with
  | zero =>
    intro p m hp hf hm
    obtain ⟨m, rfl⟩ := Nat.exists_eq_succ_of_ne_zero (Nat.ne_of_gt hm)
    exact ⟨wh_end ((lvT1_run hab hl hp).trans (by rw [decide_eq_false (show ¬ p < a.length by omega)]; rfl)), hp⟩
  | succ f ih =>
    intro p m hp hf hm
    obtain ⟨m, rfl⟩ := Nat.exists_eq_succ_of_ne_zero (Nat.ne_of_gt (Nat.lt_of_le_of_lt (Nat.zero_le _) hm))
    have ht := lvT1_run (mc := mc) (v4 := v4) hab hl hp
    unfold preP
    cases hc : (decide (p < a.length) && (a.getD p 0 == b.getD p 0)) with
    | false => exact ⟨wh_end (ht.trans (by rw [hc])), hp⟩
    | true =>
      have hlt : p < a.length := of_decide_eq_true (Bool.and_eq_true_iff.mp hc).1
      obtain ⟨g1, g2⟩ := ih (p := p + 1) (m := m) hlt (by omega) (Nat.lt_of_succ_lt_succ hm)
      exact ⟨wh_next (ht.trans (by rw [hc])) rfl g1, g2⟩
theorem idx_neg {σ : St} {s : List Nat} (hs : s.length ≤ 100) (h : q < s.length) : fIdx (.str s) (.int (-(q : Int) - 1)) σ = some (.str [s.getD (s.length - 1 - q) 0], σ) := by
  show Option.map _ (if (decide ((-(q : Int) - 1).natAbs ≤ 1000000) && decide (s.length ≤ 100000)) = true then (if 0 ≤ (-(q : Int) - 1) then _ else if -(s.length : Int) ≤ -(q : Int) - 1 then s[(-(q : Int) - 1 + s.length).toNat]?.map fun c => V.str [c] else none) else none) = _
  rw [if_pos (Bool.and_eq_true_iff.mpr ⟨decide_eq_true (by omega), decide_eq_true (by omega)⟩), if_neg (by omega), if_pos (by omega), show (-(q : Int) - 1 + (s.length : Int)).toNat = s.length - 1 - q by omega, getN (by omega)]; rfl
theorem slR_q {σ : St} {s : List Nat} (hs : s.length ≤ 100) (hq : q ≤ s.length) : fSlR G (.str s) (if (-(q : Int)) = 0 then .none else .int (-(q : Int))) σ = some (.str (cut s 0 (s.length - q)), σ) := by
  by_cases h0 : q = 0
  · subst h0
    rw [if_pos (by decide)]
    exact (if_pos (len_ok' (show s.length ≤ 100000 by omega))).trans rfl
  · rw [if_neg (by omega)]
    show slice1 s.length none (some (.int (-(q : Int)))) _ = _
    unfold slice1
    rw [if_pos (len_ok' (by omega)), show bndV s.length (some (.int (-(q : Int)))) s.length = some (s.length - q) from (if_pos (decide_eq_true (by omega))).trans (congrArg some ((if_pos (by omega)).trans (by omega)))]; rfl
theorem lvT2_run (hab : b.length = a.length) (hl : a.length ≤ 100) (hq : q ≤ a.length) : lvT2 G (lvF a b mc v3 (some (.int (-(q : Int))))) [] = some (decide (q < a.length) && (a.getD (a.length - 1 - q) 0 == b.getD (a.length - 1 - q) 0), []) := by
  have sa := slR_q (G := G) (σ := []) hl hq
  have sb := slR_q (G := G) (σ := []) (show b.length ≤ 100 by omega) (show q ≤ b.length by omega)
  have ca := cut_pre a q
  have cb := cut_pre b q
  by_cases h : q < a.length
  · have ib := idx_neg (σ := []) (show b.length ≤ 100 by omega) (show q < b.length by omega)
    rw [show b.length - 1 - q = a.length - 1 - q by omega] at ib
    have hx : tCmp .Eq (k2 fIdx (kVar 0) (k2 (binV .Sub) (kVar 4) (kV (.int 1)))) (k2 fIdx (kVar 1) (k2 (binV .Sub) (kVar 4) (kV (.int 1)))) (lvF a b mc v3 (some (.int (-(q : Int))))) [] = some (a.getD (a.length - 1 - q) 0 == b.getD (a.length - 1 - q) 0, []) := tC (r2 rfl (r2 rfl rfl rfl) (idx_neg hl h)) (r2 rfl (r2 rfl rfl rfl) ib) (cEq1 _ _ _)
    rw [decide_eq_true h, Bool.true_and]
    refine tAnd1 (tVal (r2 rfl rfl sa) (tS1 (by omega) (by omega))) (tAnd1 (tVal (r2 rfl rfl sb) (tS1 (by omega) (by omega))) ?_)
    cases hb : a.getD (a.length - 1 - q) 0 == b.getD (a.length - 1 - q) 0 with
    | true => exact tAnd1 (hx.trans (by rw [hb])) rfl
    | false => exact tAnd0 (hx.trans (by rw [hb]))
  · rw [decide_eq_false h, Bool.false_and]
    exact tAnd0 (tVal (r2 rfl rfl sa) (tS0 (by omega)))
noncomputable def sufP (a b : List Nat) : Nat → Nat → Nat
  | 0, q => q
  | f + 1, q => if decide (q < a.length) && (a.getD (a.length - 1 - q) 0 == b.getD (a.length - 1 - q) 0) then sufP a b f (q + 1) else q
theorem lvW2_for (hab : b.length = a.length) (hl : a.length ≤ 100) (f : Nat) : ∀ {q m : Nat}, q ≤ a.length → a.length - q ≤ f → f < m →
    wh (fun r => lvT2 G r.1 r.2) lvW2 m (lvF a b mc v3 (some (.int (-(q : Int)))), []) = some (.next, lvF a b mc v3 (some (.int (-((sufP a b f q : Nat) : Int)))), []) ∧ sufP a b f q ≤ a.length := by
  induction f with
  | zero =>
    intro q m hq hf hm
    obtain ⟨m, rfl⟩ := Nat.exists_eq_succ_of_ne_zero (Nat.ne_of_gt hm)
    exact ⟨wh_end ((lvT2_run hab hl hq).trans (by rw [decide_eq_false (show ¬ q < a.length by omega)]; rfl)), hq⟩
  | succ f ih =>
    intro q m hq hf hm
    obtain ⟨m, rfl⟩ := Nat.exists_eq_succ_of_ne_zero (Nat.ne_of_gt (Nat.lt_of_le_of_lt (Nat.zero_le _) hm))
    have ht := lvT2_run (G := G) (mc := mc) (v3 := v3) hab hl hq
    unfold sufP
    cases hc : (decide (q < a.length) && (a.getD (a.length - 1 - q) 0 == b.getD (a.length - 1 - q) 0)) with
    | false => exact ⟨wh_end (ht.trans (by rw [hc])), hq⟩
    | true =>
      have hlt : q < a.length := of_decide_eq_true (Bool.and_eq_true_iff.mp hc).1
      obtain ⟨g1, g2⟩ := ih (q := q + 1) (m := m) hlt (by omega) (Nat.lt_of_succ_lt_succ hm)
      exact ⟨wh_next (ht.trans (by rw [hc])) (sLast (iAug rfl rfl (congrArg (fun i => some (V.int i)) (show -(q : Int) - 1 = -((q + 1 : Nat) : Int) by omega)) rfl)) g1, g2⟩
noncomputable def levP (a b : List Nat) (mc : Nat) : Nat := if a = b then 0 else
  let p := preP a b a.length 0
  let a1 := cut a p a.length
  let b1 := cut b p b.length
  let q := sufP a1 b1 a1.length 0
  let a2 := cut a1 0 (a1.length - q)
  let b2 := cut b1 0 (b1.length - q)
  if a2.isEmpty then 0 else outP a2 b2 mc (List.range b2.length) 0 (row0 a2.length)
theorem oLenS {s : List Nat} {σ : St} {i : Nat} {ρ : Env1} (h : kVar i ρ σ = some (.str s, σ)) (hs : s.length ≤ 100) : kEs (biV .len) (kCons (kVar i) kNil) ρ σ = some (.int s.length, σ) := rEs (rOne h) (oLen (len_ok' (by omega)))
theorem lvChk_run {k : MS} (hg : G.gints = [40, 2, 1]) (hab : b.length = a.length) (hl : a.length ≤ 40) :
    lvChk G k (lvF a b mc v3 v4, []) = if a.length = 0 then some (.ret (.int 0), lvF a b mc v3 v4, []) else k (lvF a b mc v3 v4, []) := by
  have hG1 : ∀ {ρ : Env1} {σ : St}, kG G 1 ρ σ = some (.int 2, σ) := kGv (by rw [hg]; rfl)
  have hG0 : ∀ {ρ : Env1} {σ : St}, kG G 0 ρ σ = some (.int 40, σ) := kGv (by rw [hg]; rfl)
  have la := oLenS (s := a) (σ := []) (i := 0) (ρ := lvF a b mc v3 v4) rfl (by omega)
  have lb := oLenS (s := b) (σ := []) (i := 1) (ρ := lvF a b mc v3 v4) rfl (by omega)
  by_cases h0 : a.length = 0
  · rw [if_pos h0]
    exact sStop (iIfT (tOr1 (tN (tVal rfl (tS0 h0)))) (sStop (iRet (r2 hG1 (r2 la lb rfl) (show binV .Mult (.int 2) (.int ((a.length : Int) + b.length)) [] = some (.int 0, []) from congrArg (fun i => some (V.int i, ([] : St))) (show (2 : Int) * ((a.length : Int) + b.length) = 0 by omega))))))
  · rw [if_neg h0]
    have ng : ∀ {x : Nat}, x ≤ 40 → cmpV [] .Gt (.int x) (.int 40) = some false := fun h => congrArg some (decide_eq_false (by omega))
    exact sNext (iIfF (tOr0 (tN (tVal rfl (tS1 (by omega) (by omega)))) (tOr0 (tN (tVal rfl (tS1 (by omega) (by omega)))) rfl)) rfl) (sNext (iIfF (tOr0 (tC la hG0 (ng hl)) (tOr0 (tC lb hG0 (ng (by omega))) rfl)) rfl)
      (sNext (iIfF (tC lb la ((cLt _ _).trans (congrArg some (decide_eq_false (by omega))))) rfl) (sNext (iIfF (tC (x := .int 0) (r2 (r2 lb la rfl) hG1 ((if_pos (by rw [hab, Int.sub_self]; rfl)).trans (congrArg (fun i => some (V.int i, ([] : St))) (by omega)))) rfl (congrArg some (decide_eq_false (by omega)))) rfl) rfl)))
theorem mem_cut {α : Type} {l : List α} {a b : Nat} {x : α} (h : x ∈ cut l a b) : x ∈ l := List.mem_of_mem_take (List.mem_of_mem_drop h)
theorem lv_run (hG : IsSub G) (hg : G.gints = [40, 2, 1]) (ha : ∀ x ∈ a, x < 128) (hb : ∀ x ∈ b, x < 128) (hab : b.length = a.length) (hl : a.length ≤ 40) :
    runF 14 (b_lv G) [.str a, .str b, .int mc] = some (.int (levP a b mc : Nat), 0) := by
  have fin : ∀ {i : Nat} {ρ : Env1} {σ' : St}, b_lv G (lvF a b mc none none, []) = some (.ret (.int (i : Int)), ρ, σ') → runF 14 (b_lv G) [.str a, .str b, .int mc] = some (.int (i : Int), 0) := fun h => runF_ret (vs := [.str a, .str b, .int mc]) (σ0 := []) (ids := []) rfl h rfl rfl rfl
  unfold levP
  by_cases hE : a = b
  · rw [if_pos hE]
    exact fin (sStop (iIfT (tC rfl rfl (congrArg some (beq_iff_eq.mpr hE))) (sStop (iRet rfl))))
  · rw [if_neg hE]
    dsimp only
    have w1 := lvW1_for (mc := mc) (v4 := none) hab (by omega) a.length (p := 0) (m := 10000) (Nat.zero_le _) (by omega) (by omega)
    generalize preP a b a.length 0 = p at w1 ⊢
    obtain ⟨w1, hp⟩ := w1
    have ca := cut_ge a p
    have cb := cut_ge b p
    have ma : ∀ x ∈ cut a p a.length, x < 128 := fun x h => ha x (mem_cut h)
    have mb : ∀ x ∈ cut b p b.length, x < 128 := fun x h => hb x (mem_cut h)
    have sa := slL (σ := []) hp (show a.length ≤ 100000 by omega)
    have sb := slL (σ := []) (show p ≤ b.length by omega) (by omega)
    generalize cut a p a.length = a1 at ca ma sa ⊢
    generalize cut b p b.length = b1 at cb mb sb ⊢
    have w2 := lvW2_for (G := G) (a := a1) (b := b1) (mc := mc) (v3 := some (.int p)) (by omega) (by omega) a1.length (q := 0) (m := 10000) (Nat.zero_le _) (by omega) (by omega)
    generalize sufP a1 b1 a1.length 0 = q at w2 ⊢
    obtain ⟨w2, hq⟩ := w2
    have ca2 := cut_pre a1 q
    have cb2 := cut_pre b1 q
    have ma2 : ∀ x ∈ cut a1 0 (a1.length - q), x < 128 := fun x h => ma x (mem_cut h)
    have mb2 : ∀ x ∈ cut b1 0 (b1.length - q), x < 128 := fun x h => mb x (mem_cut h)
    have ta := slR_q (G := G) (σ := []) (show a1.length ≤ 100 by omega) hq
    have tb := slR_q (G := G) (σ := []) (show b1.length ≤ 100 by omega) (show q ≤ b1.length by omega)
    generalize cut a1 0 (a1.length - q) = a2 at ca2 ma2 ta ⊢
    generalize cut b1 0 (b1.length - q) = b2 at cb2 mb2 tb ⊢
    have hchk := lvChk_run (G := G) (a := a2) (b := b2) (mc := mc) (v3 := some (.int p)) (v4 := some (.int (-(q : Int)))) (k := lvEnd G) hg (by omega) (by omega)
    obtain ⟨ρ, σ', hend⟩ := lvEnd_run (mc := mc) (v3 := some (.int p)) (v4 := some (.int (-(q : Int)))) hG hg ma2 mb2 (by omega) (by omega)
    have go : ∀ {w : Option (Fl × Env1 × St)}, lvChk G (lvEnd G) (lvF a2 b2 mc (some (.int p)) (some (.int (-(q : Int)))), []) = w → b_lv G (lvF a b mc none none, []) = w := fun h =>
      sNext (iIfF (tC rfl rfl (congrArg some (beq_eq_false_iff_ne.mpr hE))) rfl) (sNext (iAsg rfl rfl) (sNext (iWh w1) (sNext (iAsg (r2 rfl rfl sa) rfl) (sNext (iAsg (r2 rfl rfl sb) rfl) (sNext (iAsg rfl rfl) (sNext (iWh w2) (sNext (iAsg (r2 rfl rfl ta) rfl) (sNext (iAsg (r2 rfl rfl tb) rfl) h))))))))
    rw [emp_len]
    by_cases h0 : a2.length = 0
    · rw [if_pos h0] at hchk
      rw [decide_eq_true h0]
      exact fin (i := 0) (go hchk)
    · rw [if_neg h0] at hchk
      rw [decide_eq_false h0]
      exact fin (go (hchk.trans hend))
end
end
section
set_option backward.match.sparseCases false
open PySem
noncomputable def taPut (a b : Nat) : MS := sSub (k2 fIdx (kVar 1) (k2 (binV .Pow) (kV (.int 2)) (kVar a))) (k2 (binV .Pow) (kV (.int 2)) (kVar b)) (kVar 4)
noncomputable def taIn (G : GX) : MS := sCons (sAsg 4 (kEs (callF G 1) (kCons (k2 fIdx (kVar 0) (kVar 2)) (kCons (k2 fIdx (kVar 0) (kVar 3)) (kCons (k2 (binV .Mult) (kV (.int 2)) (kEs (biV .len) (kCons (k2 fIdx (kVar 0) (kVar 2)) kNil))) kNil))))) (sCons (taPut 2 3) (sCons (taPut 3 2) sNil))
noncomputable def taOut (G : GX) : MS := sCons (sFor 3 (kEs (biV .range) (kCons (kVar 2) kNil)) (taIn G) sNil) sNil
noncomputable def taDc : ME := kDcomp [] 2 1 (kEs (biV .range) (kCons (kV (.int 5)) kNil)) (tNil true) (k2 (binV .Pow) (kV (.int 2)) (kVar 1)) (kDict0 false)
noncomputable def b_ta (G : GX) : MS := sCons (sAsg 1 taDc) (sCons (sFor 2 (kEs (biV .range) (kCons (kV (.int 5)) kNil)) (taOut G) sNil) (sCons (sRet (kVar 1)) sNil))
noncomputable def farP (ws : Nat → List Nat) (k : Nat) : Nat := match k with
  | 0 => levP (ws 1) (ws 0) (2 * (ws 1).length)
  | 1 => levP (ws 2) (ws 0) (2 * (ws 2).length)
  | 2 => levP (ws 2) (ws 1) (2 * (ws 2).length)
  | 3 => levP (ws 3) (ws 0) (2 * (ws 3).length)
  | 4 => levP (ws 3) (ws 1) (2 * (ws 3).length)
  | 5 => levP (ws 3) (ws 2) (2 * (ws 3).length)
  | 6 => levP (ws 4) (ws 0) (2 * (ws 4).length)
  | 7 => levP (ws 4) (ws 1) (2 * (ws 4).length)
  | 8 => levP (ws 4) (ws 2) (2 * (ws 4).length)
  | _ => levP (ws 4) (ws 3) (2 * (ws 4).length)
noncomputable def tblT (d : Nat → Int) : T := .dI [(1, .dI [(2, .int (d 0)), (4, .int (d 1)), (8, .int (d 3)), (16, .int (d 6))]), (2, .dI [(1, .int (d 0)), (4, .int (d 2)), (8, .int (d 4)), (16, .int (d 7))]), (4, .dI [(1, .int (d 1)), (2, .int (d 2)), (8, .int (d 5)), (16, .int (d 8))]), (8, .dI [(1, .int (d 3)), (2, .int (d 4)), (4, .int (d 5)), (16, .int (d 9))]), (16, .dI [(1, .int (d 6)), (2, .int (d 7)), (4, .int (d 8)), (8, .int (d 9))])]
noncomputable def IsLev (G : GX) : Prop := ∀ (a b : List Nat) (mc : Nat), (∀ x ∈ a, x < 128) → (∀ x ∈ b, x < 128) → b.length = a.length → a.length ≤ 40 → G.F 1 [.str a, .str b, .int mc] = some (.int (levP a b mc : Nat), 0)
section
variable {G : GX} {ws : Nat → List Nat} {i j : Nat}
noncomputable def taL (ws : Nat → List Nat) : O := .list [.str (ws 0), .str (ws 1), .str (ws 2), .str (ws 3), .str (ws 4)]
noncomputable def taR (ws : Nat → List Nat) (r : List (List (Int × V))) : St := taL ws :: (r.map O.dI ++ [.dI [(1, .ref 1), (2, .ref 2), (4, .ref 3), (8, .ref 4), (16, .ref 5)]])
theorem taL_get (hi : i < 5) : ([.str (ws 0), .str (ws 1), .str (ws 2), .str (ws 3), .str (ws 4)] : List V)[i]? = some (.str (ws i)) := by
  match i, hi with
  | 0, _ => rfl
  | 1, _ => rfl
  | 2, _ => rfl
  | 3, _ => rfl
  | 4, _ => rfl
theorem ta_T {σ : St} {f : Option V} {r' : Env1 × St} {d : Int} (h0 : σ[0]? = some (taL ws)) (hi : i < 5) (hj : j < 5) (hl : (ws i).length ≤ 40) (hc : ∀ σ : St, callF G 1 [.str (ws i), .str (ws j), .int (2 * ((ws i).length : Int))] σ = some (.int d, σ))
    (h : sCons (taPut 2 3) (sCons (taPut 3 2) sNil) ([some (.ref 0), some (.ref 6), some (.int (i : Int)), some (.int (j : Int)), some (.int d)], σ) = some (.next, r')) : taIn G ([some (.ref 0), some (.ref 6), some (.int (i : Int)), some (.int (j : Int)), f], σ) = some (.next, r') :=
  have hI : k2 fIdx (kVar 0) (kVar 2) [some (.ref 0), some (.ref 6), some (.int (i : Int)), some (.int (j : Int)), f] σ = some (.str (ws i), σ) := r2 rfl rfl (oIdxL h0 (by omega) (taL_get hi))
  sNext (iAsg (rEs (rCons hI (rCons (r2 rfl rfl (oIdxL h0 (by omega) (taL_get hj))) (rOne (r2 rfl (rEs (rOne hI) (oLen (len_ok' (by omega)))) rfl)))) (hc _)) rfl) h
end
section
variable {G : GX} {ws : Nat → List Nat} {d : Nat → Int}
noncomputable def taR' (ws : Nat → List Nat) (d : Nat → Int) : St := taR ws [[(2, .int (d 0)), (4, .int (d 1)), (8, .int (d 3)), (16, .int (d 6))], [(1, .int (d 0)), (4, .int (d 2)), (8, .int (d 4)), (16, .int (d 7))], [(1, .int (d 1)), (2, .int (d 2)), (8, .int (d 5)), (16, .int (d 8))], [(1, .int (d 3)), (2, .int (d 4)), (4, .int (d 5)), (16, .int (d 9))], [(1, .int (d 6)), (2, .int (d 7)), (4, .int (d 8)), (8, .int (d 9))]]
noncomputable def CallD (G : GX) (ws : Nat → List Nat) (d : Nat → Int) (i j k : Nat) : Prop := ∀ σ : St, callF G 1 [.str (ws i), .str (ws j), .int (2 * ((ws i).length : Int))] σ = some (.int (d k), σ)
theorem ta_o1 (hl : ∀ i, i < 5 → (ws i).length ≤ 40) (h0 : CallD G ws d 1 0 0) {f g : Option V} :
    taOut G ([some (.ref 0), some (.ref 6), some (.int 1), f, g], taR ws [[], [], [], [], []]) = some (.next, [some (.ref 0), some (.ref 6), some (.int 1), some (.int 0), some (.int (d 0))], taR ws [[(2, .int (d 0))], [(1, .int (d 0))], [], [], []]) :=
  sLast (iFor (rEs (rOne rfl) (rangeB (n := 1) (by decide))) (iter_rng _ 1) (fo_next rfl (ta_T (r' := ([some (.ref 0), some (.ref 6), some (.int 1), some (.int 0), some (.int (d 0))], taR ws [[(2, .int (d 0))], [(1, .int (d 0))], [], [], []])) rfl (i := 1) (j := 0) (by decide) (by decide) (hl 1 (by decide)) h0 (by kernel_rfl)) rfl))
theorem ta_o2 (hl : ∀ i, i < 5 → (ws i).length ≤ 40) (h0 : CallD G ws d 2 0 1) (h1 : CallD G ws d 2 1 2) {f g : Option V} :
    taOut G ([some (.ref 0), some (.ref 6), some (.int 2), f, g], taR ws [[(2, .int (d 0))], [(1, .int (d 0))], [], [], []]) = some (.next, [some (.ref 0), some (.ref 6), some (.int 2), some (.int 1), some (.int (d 2))], taR ws [[(2, .int (d 0)), (4, .int (d 1))], [(1, .int (d 0)), (4, .int (d 2))], [(1, .int (d 1)), (2, .int (d 2))], [], []]) :=
  sLast (iFor (rEs (rOne rfl) (rangeB (n := 2) (by decide))) (iter_rng _ 2) (fo_next rfl (ta_T (r' := ([some (.ref 0), some (.ref 6), some (.int 2), some (.int 0), some (.int (d 1))], taR ws [[(2, .int (d 0)), (4, .int (d 1))], [(1, .int (d 0))], [(1, .int (d 1))], [], []])) rfl (i := 2) (j := 0) (by decide) (by decide) (hl 2 (by decide)) h0 (by kernel_rfl)) (fo_next rfl (ta_T (r' := ([some (.ref 0), some (.ref 6), some (.int 2), some (.int 1), some (.int (d 2))], taR ws [[(2, .int (d 0)), (4, .int (d 1))], [(1, .int (d 0)), (4, .int (d 2))], [(1, .int (d 1)), (2, .int (d 2))], [], []])) rfl (i := 2) (j := 1) (by decide) (by decide) (hl 2 (by decide)) h1 (by kernel_rfl)) rfl)))
theorem ta_o3 (hl : ∀ i, i < 5 → (ws i).length ≤ 40) (h0 : CallD G ws d 3 0 3) (h1 : CallD G ws d 3 1 4) (h2 : CallD G ws d 3 2 5) {f g : Option V} :
    taOut G ([some (.ref 0), some (.ref 6), some (.int 3), f, g], taR ws [[(2, .int (d 0)), (4, .int (d 1))], [(1, .int (d 0)), (4, .int (d 2))], [(1, .int (d 1)), (2, .int (d 2))], [], []]) = some (.next, [some (.ref 0), some (.ref 6), some (.int 3), some (.int 2), some (.int (d 5))], taR ws [[(2, .int (d 0)), (4, .int (d 1)), (8, .int (d 3))], [(1, .int (d 0)), (4, .int (d 2)), (8, .int (d 4))], [(1, .int (d 1)), (2, .int (d 2)), (8, .int (d 5))], [(1, .int (d 3)), (2, .int (d 4)), (4, .int (d 5))], []]) :=
  sLast (iFor (rEs (rOne rfl) (rangeB (n := 3) (by decide))) (iter_rng _ 3) (fo_next rfl (ta_T (r' := ([some (.ref 0), some (.ref 6), some (.int 3), some (.int 0), some (.int (d 3))], taR ws [[(2, .int (d 0)), (4, .int (d 1)), (8, .int (d 3))], [(1, .int (d 0)), (4, .int (d 2))], [(1, .int (d 1)), (2, .int (d 2))], [(1, .int (d 3))], []])) rfl (i := 3) (j := 0) (by decide) (by decide) (hl 3 (by decide)) h0 (by kernel_rfl)) (fo_next rfl (ta_T (r' := ([some (.ref 0), some (.ref 6), some (.int 3), some (.int 1), some (.int (d 4))], taR ws [[(2, .int (d 0)), (4, .int (d 1)), (8, .int (d 3))], [(1, .int (d 0)), (4, .int (d 2)), (8, .int (d 4))], [(1, .int (d 1)), (2, .int (d 2))], [(1, .int (d 3)), (2, .int (d 4))], []])) rfl (i := 3) (j := 1) (by decide) (by decide) (hl 3 (by decide)) h1 (by kernel_rfl)) (fo_next rfl (ta_T (r' := ([some (.ref 0), some (.ref 6), some (.int 3), some (.int 2), some (.int (d 5))], taR ws [[(2, .int (d 0)), (4, .int (d 1)), (8, .int (d 3))], [(1, .int (d 0)), (4, .int (d 2)), (8, .int (d 4))], [(1, .int (d 1)), (2, .int (d 2)), (8, .int (d 5))], [(1, .int (d 3)), (2, .int (d 4)), (4, .int (d 5))], []])) rfl (i := 3) (j := 2) (by decide) (by decide) (hl 3 (by decide)) h2 (by kernel_rfl)) rfl))))
theorem ta_o4 (hl : ∀ i, i < 5 → (ws i).length ≤ 40) (h0 : CallD G ws d 4 0 6) (h1 : CallD G ws d 4 1 7) (h2 : CallD G ws d 4 2 8) (h3 : CallD G ws d 4 3 9) {f g : Option V} :
    taOut G ([some (.ref 0), some (.ref 6), some (.int 4), f, g], taR ws [[(2, .int (d 0)), (4, .int (d 1)), (8, .int (d 3))], [(1, .int (d 0)), (4, .int (d 2)), (8, .int (d 4))], [(1, .int (d 1)), (2, .int (d 2)), (8, .int (d 5))], [(1, .int (d 3)), (2, .int (d 4)), (4, .int (d 5))], []]) = some (.next, [some (.ref 0), some (.ref 6), some (.int 4), some (.int 3), some (.int (d 9))], taR ws [[(2, .int (d 0)), (4, .int (d 1)), (8, .int (d 3)), (16, .int (d 6))], [(1, .int (d 0)), (4, .int (d 2)), (8, .int (d 4)), (16, .int (d 7))], [(1, .int (d 1)), (2, .int (d 2)), (8, .int (d 5)), (16, .int (d 8))], [(1, .int (d 3)), (2, .int (d 4)), (4, .int (d 5)), (16, .int (d 9))], [(1, .int (d 6)), (2, .int (d 7)), (4, .int (d 8)), (8, .int (d 9))]]) :=
  sLast (iFor (rEs (rOne rfl) (rangeB (n := 4) (by decide))) (iter_rng _ 4) (fo_next rfl (ta_T (r' := ([some (.ref 0), some (.ref 6), some (.int 4), some (.int 0), some (.int (d 6))], taR ws [[(2, .int (d 0)), (4, .int (d 1)), (8, .int (d 3)), (16, .int (d 6))], [(1, .int (d 0)), (4, .int (d 2)), (8, .int (d 4))], [(1, .int (d 1)), (2, .int (d 2)), (8, .int (d 5))], [(1, .int (d 3)), (2, .int (d 4)), (4, .int (d 5))], [(1, .int (d 6))]])) rfl (i := 4) (j := 0) (by decide) (by decide) (hl 4 (by decide)) h0 (by kernel_rfl)) (fo_next rfl (ta_T (r' := ([some (.ref 0), some (.ref 6), some (.int 4), some (.int 1), some (.int (d 7))], taR ws [[(2, .int (d 0)), (4, .int (d 1)), (8, .int (d 3)), (16, .int (d 6))], [(1, .int (d 0)), (4, .int (d 2)), (8, .int (d 4)), (16, .int (d 7))], [(1, .int (d 1)), (2, .int (d 2)), (8, .int (d 5))], [(1, .int (d 3)), (2, .int (d 4)), (4, .int (d 5))], [(1, .int (d 6)), (2, .int (d 7))]])) rfl (i := 4) (j := 1) (by decide) (by decide) (hl 4 (by decide)) h1 (by kernel_rfl)) (fo_next rfl (ta_T (r' := ([some (.ref 0), some (.ref 6), some (.int 4), some (.int 2), some (.int (d 8))], taR ws [[(2, .int (d 0)), (4, .int (d 1)), (8, .int (d 3)), (16, .int (d 6))], [(1, .int (d 0)), (4, .int (d 2)), (8, .int (d 4)), (16, .int (d 7))], [(1, .int (d 1)), (2, .int (d 2)), (8, .int (d 5)), (16, .int (d 8))], [(1, .int (d 3)), (2, .int (d 4)), (4, .int (d 5))], [(1, .int (d 6)), (2, .int (d 7)), (4, .int (d 8))]])) rfl (i := 4) (j := 2) (by decide) (by decide) (hl 4 (by decide)) h2 (by kernel_rfl)) (fo_next rfl (ta_T (r' := ([some (.ref 0), some (.ref 6), some (.int 4), some (.int 3), some (.int (d 9))], taR ws [[(2, .int (d 0)), (4, .int (d 1)), (8, .int (d 3)), (16, .int (d 6))], [(1, .int (d 0)), (4, .int (d 2)), (8, .int (d 4)), (16, .int (d 7))], [(1, .int (d 1)), (2, .int (d 2)), (8, .int (d 5)), (16, .int (d 8))], [(1, .int (d 3)), (2, .int (d 4)), (4, .int (d 5)), (16, .int (d 9))], [(1, .int (d 6)), (2, .int (d 7)), (4, .int (d 8)), (8, .int (d 9))]])) rfl (i := 4) (j := 3) (by decide) (by decide) (hl 4 (by decide)) h3 (by kernel_rfl)) rfl)))))
end
theorem ta_run {G : GX} (hG : IsLev G) (ws : Nat → List Nat) (n : Nat) (hn : n ≤ 40) (hl : ∀ i, i < 5 → (ws i).length = n) (hc : ∀ i, i < 5 → ∀ x ∈ ws i, x < 128) : runF 5 (b_ta G) [.list [.str (ws 0), .str (ws 1), .str (ws 2), .str (ws 3), .str (ws 4)]] = some (tblT fun k => (farP ws k : Int), 0) := by
  have hl' : ∀ i, i < 5 → (ws i).length ≤ 40 := fun i hi => (hl i hi).symm ▸ hn
  have hd : ∀ (i j : Nat), i < 5 → j < 5 → ∀ σ : St, callF G 1 [.str (ws i), .str (ws j), .int (2 * ((ws i).length : Int))] σ = some (.int ((levP (ws i) (ws j) (2 * (ws i).length) : Nat) : Int), σ) := fun i j hi hj σ =>
    call_of (t := .int _) (ids := []) rfl (by decide) (hG (ws i) (ws j) (2 * (ws i).length) (hc i hi) (hc j hj) ((hl j hj).trans (hl i hi).symm) (hl' i hi)) rfl
  have q0 : sAsg 1 taDc ([some (.ref 0), none, none, none, none], [taL ws]) = some (.next, [some (.ref 0), some (.ref 6), none, none, none], taR ws [[], [], [], [], []]) := by kernel_rfl
  have q1 : sFor 2 (kEs (biV .range) (kCons (kV (.int 5)) kNil)) (taOut G) sNil ([some (.ref 0), some (.ref 6), none, none, none], taR ws [[], [], [], [], []]) = some (.next, [some (.ref 0), some (.ref 6), some (.int 4), some (.int 3), some (.int (farP ws 9 : Nat))], taR' ws fun k => ((farP ws k : Nat) : Int)) :=
    iFor (rEs (rOne rfl) (rangeB (n := 5) (by decide))) (iter_rng _ 5) (fo_next rfl (by kernel_rfl : taOut G ([some (.ref 0), some (.ref 6), some (.int 0), none, none], taR ws [[], [], [], [], []]) = some (.next, [some (.ref 0), some (.ref 6), some (.int 0), none, none], taR ws [[], [], [], [], []]))
      (fo_next rfl (ta_o1 (d := fun k => ((farP ws k : Nat) : Int)) hl' (hd 1 0 (by decide) (by decide))) (fo_next rfl (ta_o2 (d := fun k => ((farP ws k : Nat) : Int)) hl' (hd 2 0 (by decide) (by decide)) (hd 2 1 (by decide) (by decide))) (fo_next rfl (ta_o3 (d := fun k => ((farP ws k : Nat) : Int)) hl' (hd 3 0 (by decide) (by decide)) (hd 3 1 (by decide) (by decide)) (hd 3 2 (by decide) (by decide)))
        (fo_next rfl (ta_o4 (d := fun k => ((farP ws k : Nat) : Int)) hl' (hd 4 0 (by decide) (by decide)) (hd 4 1 (by decide) (by decide)) (hd 4 2 (by decide) (by decide)) (hd 4 3 (by decide) (by decide))) rfl)))))
  refine runF_ret (vs := [.ref 0]) (σ0 := [taL ws]) (v := .ref 6) (σ := taR' ws fun k => ((farP ws k : Nat) : Int)) (ids := [1, 2, 3, 4, 5, 6]) (by kernel_rfl) (sNext q0 (sNext q1 (sStop (iRet rfl)))) (by kernel_rfl) ?_ (by kernel_rfl)
  exact (congrArg (true && true && ·) (same_up [taL ws] (σ' := taR' ws fun k => ((farP ws k : Nat) : Int)) fun k o e => by
    cases k with
    | zero => exact e
    | succ k => cases e)).trans rfl
end
section
set_option backward.match.sparseCases false
open PySem
noncomputable def partP (s : Nat) : Nat := if s % 2 = 0 then s else 31 - s
noncomputable def b_part (G : GX) : MS := sCons (sRet (kIte (tCmp .Eq (k2 (binV .Mod) (kVar 0) (kV (.int 2))) (kV (.int 0))) (kVar 0) (k2 (binV .Sub) (kV (.int 31)) (kVar 0)))) sNil
noncomputable def sideL : List Nat := [1, 2, 3, 4, 5, 6, 7, 8, 9, 10, 11, 12, 13, 14, 15, 16, 17, 18, 19, 20, 21, 22, 23, 24, 25, 26, 27, 28, 29, 30]
theorem side_mem {s : Nat} (h1 : 1 ≤ s) (h2 : s ≤ 30) : s ∈ sideL := by
  have : sideL = List.range' 1 30 := by decide
  rw [this, List.mem_range'_1]; omega
theorem by_map {α β : Type} {f g : α → β} {l : List α} (h : l.map f = l.map g) {a : α} (ha : a ∈ l) : f a = g a := List.map_inj_left.mp h a ha
theorem part_run {G : GX} {s : Nat} (h1 : 1 ≤ s) (h2 : s ≤ 30) : runF 1 (b_part G) [.int (s : Nat)] = some (.int (partP s : Nat), 0) :=
  by_map (f := fun s : Nat => runF 1 (b_part G) [.int s]) (g := fun s => some (.int (partP s : Nat), 0)) (l := sideL) (by kernel_rfl) (side_mem h1 h2)
noncomputable def nmL : List (List Nat) := [[79, 80, 84, 73, 77, 73, 90, 69, 68], [78, 69, 87, 76, 79, 67, 65, 76, 83], [86, 65, 82, 65, 82, 71, 83], [86, 65, 82, 75, 69, 89, 87, 79, 82, 68, 83], [78, 69, 83, 84, 69, 68], [71, 69, 78, 69, 82, 65, 84, 79, 82], [78, 79, 70, 82, 69, 69], [67, 79, 82, 79, 85, 84, 73, 78, 69], [73, 84, 69, 82, 65, 66, 76, 69, 95, 67, 79, 82, 79, 85, 84, 73, 78, 69], [65, 83, 89, 78, 67, 95, 71, 69, 78, 69, 82, 65, 84, 79, 82], [48, 120, 52, 48, 48]]
noncomputable def dueL (p s : Nat) : List (List Nat) := ([1, 2, 3, 4].filter fun k => p / 2 ^ k % 2 == 1).map fun k => nmL.getD (k + s) []
noncomputable def dueN (p s : Nat) : List Nat := joinS [44, 32] (dueL p s)
noncomputable def IsPart (p : Nat) : Prop := p ∈ ([2, 4, 6, 8, 10, 12, 14, 16, 18, 20, 22, 24, 26, 28, 30] : List Nat)
noncomputable def IsSh (s : Nat) : Prop := s ∈ ([0, 1, 2, 3, 4, 5, 6] : List Nat)
theorem part_ok {s : Nat} (h1 : 1 ≤ s) (h2 : s ≤ 30) : IsPart (partP s) := (show ∀ s ∈ sideL, partP s ∈ ([2, 4, 6, 8, 10, 12, 14, 16, 18, 20, 22, 24, 26, 28, 30] : List Nat) by decide) s (side_mem h1 h2)
noncomputable def psL : List (Nat × Nat) := ([2, 4, 6, 8, 10, 12, 14, 16, 18, 20, 22, 24, 26, 28, 30] : List Nat).flatMap fun p => [(p, 0), (p, 1), (p, 2), (p, 3), (p, 4), (p, 5), (p, 6)]
theorem ps_mem {p s : Nat} (hp : IsPart p) (hs : IsSh s) : (p, s) ∈ psL := List.mem_flatMap.mpr ⟨p, hp, List.mem_map_of_mem (f := fun s => (p, s)) hs⟩
noncomputable def dueC : ME := kLcomp [(2, 2), (3, 6), (4, 1)] 5 1 (kEs (biV .range) (kCons (kV (.int 1)) (kCons (kV (.int 5)) kNil))) (tCons true (tCmp .Eq (k2 (binV .Mod) (k2 (binV .FloorDiv) (kVar 3) (k2 (binV .Pow) (kV (.int 2)) (kVar 1))) (kV (.int 2))) (kV (.int 1))) (tNil true)) (k2 fIdx (kVar 2) (k2 (binV .Add) (kVar 1) (kVar 4)))
section
variable {G : GX} {a b e f g : Option V} {o0 o1 o2 o4 : O} {X : St} {p s : Nat}
theorem due_comp (hp : IsPart p) (hs : IsSh s) :
    dueC [a, some (.int s), some (.ref 3), b, e, f, some (.int p), g] (o0 :: o1 :: o2 :: .list (nmL.map .str) :: o4 :: X) = some (.ref (X.length + 5), o0 :: o1 :: o2 :: .list (nmL.map .str) :: o4 :: (X ++ [.list ((dueL p s).map .str)])) := by
  have h : psL.map (fun q : Nat × Nat => dueC [a, some (.int q.2), some (.ref 3), b, e, f, some (.int q.1), g] (o0 :: o1 :: o2 :: .list (nmL.map .str) :: o4 :: X)) = psL.map fun q => some (.ref (X.length + 5), o0 :: o1 :: o2 :: .list (nmL.map .str) :: o4 :: (X ++ [.list ((dueL q.1 q.2).map .str)])) := by kernel_rfl
  have := by_map h (ps_mem hp hs)
  dsimp only at this
  exact this
theorem due_len (hp : IsPart p) (hs : IsSh s) : lenOk (((dueL p s).map List.length).sum + (dueL p s).length * 2) = true := by
  have h : psL.map (fun q : Nat × Nat => lenOk (((dueL q.1 q.2).map List.length).sum + (dueL q.1 q.2).length * 2)) = psL.map fun _ => true := by kernel_rfl
  have := by_map h (ps_mem hp hs)
  dsimp only at this
  exact this
theorem oJoin2 {k : Nat} {sep : List Nat} {ls : List (List Nat)} {σ : St} (h : σ[k]? = some (.list (ls.map .str))) (hl : lenOk ((ls.map List.length).sum + ls.length * sep.length) = true) : miV .join (.str sep) [.ref k] σ = some (.str (joinS sep ls), σ) := by
  show atL σ k _ = _
  unfold atL
  rw [h]
  dsimp only
  rw [strsOf_map]
  exact if_pos hl
theorem due_name (hp : IsPart p) (hs : IsSh s) :
    kMeth .join (kV (.str [44, 32])) (kCons dueC kNil) [a, some (.int s), some (.ref 3), b, e, f, some (.int p), g] (o0 :: o1 :: o2 :: .list (nmL.map .str) :: o4 :: X) = some (.str (dueN p s), o0 :: o1 :: o2 :: .list (nmL.map .str) :: o4 :: (X ++ [.list ((dueL p s).map .str)])) :=
  rMeth rfl rfl (rOne (due_comp hp hs)) (oJoin2 (sep := [44, 32]) (show (X ++ [O.list ((dueL p s).map .str)])[X.length]? = _ from lk_last) (due_len hp hs))
noncomputable def vSI (l : List (List Nat × Int)) : List (List Nat × V) := l.map fun e => (e.1, .int e.2)
theorem getK_vSI (l : List (List Nat × Int)) (k : List Nat) : getK (vSI l) k = (getK l k).map V.int := by
  unfold getK vSI
  rw [List.find?_map]
  show ((l.find? fun e => decide (e.1 = k)).map _).map _ = _
  cases l.find? fun e => decide (e.1 = k) <;> rfl
theorem getD_vSI (l : List (List Nat × Int)) (k : List Nat) : (getK (vSI l) k).getD (.int 0) = .int ((getK l k).getD 0) := by
  rw [getK_vSI]; cases getK l k <;> rfl
theorem putK_vSI (l : List (List Nat × Int)) (k : List Nat) (v : Int) : putK (vSI l) k (.int v) = vSI (putK l k v) := by
  unfold putK
  rw [show hasK (vSI l) k = hasK l k from List.any_map]
  cases hasK l k with
  | true =>
    rw [if_pos rfl, if_pos rfl]
    unfold vSI
    rw [List.map_map, List.map_map]
    refine congrArg (List.map · l) (funext fun e => ?_)
    show (if e.1 = k then (e.1, V.int v) else (e.1, V.int e.2)) = ((if e.1 = k then (e.1, v) else e).1, V.int (if e.1 = k then (e.1, v) else e).2)
    by_cases h : e.1 = k
    · rw [if_pos h, if_pos h]
    · rw [if_neg h, if_neg h]
  | false => exact (List.map_append (l₂ := [(k, v)])).symm
noncomputable def bmp {κ : Type} [DecidableEq κ] (l : List (κ × Int)) (k : κ) (v : Int) : List (κ × Int) := putK l k ((getK l k).getD 0 + v)
theorem vSI_len (l : List (List Nat × Int)) : (vSI l).length = l.length := List.length_map ..
theorem bump_len {κ : Type} [DecidableEq κ] (l : List (κ × Int)) (k : κ) (v : Int) : (bmp l k v).length ≤ l.length + 1 := putK_le _ _ _
theorem oGet {k : Nat} {l : List (List Nat × Int)} {x : List Nat} {σ : St} (h : σ[k]? = some (.dS (vSI l))) : miV .get (.ref k) [.str x, .int 0] σ = some (.int ((getK l x).getD 0), σ) := by
  show atS σ k _ = _
  unfold atS
  rw [h]
  exact congrArg (fun v => some (v, σ)) (getD_vSI l x)
theorem mOkS {k : Nat} {l : List (List Nat × V)} {σ : St} (h : σ[k]? = some (.dS l)) : mOk σ .get (.ref k) = true := by
  show (atS σ k fun _ => some ()).isSome = true
  unfold atS
  rw [h]; rfl
theorem oPutS {k : Nat} {l : List (List Nat × Int)} {x : List Nat} {v : Int} {σ : St} (h : σ[k]? = some (.dS (vSI l))) (hl : l.length ≤ 1000) : storeV σ (.ref k) (.str x) (.int v) = some (σ.set k (.dS (vSI (putK l x v)))) := by
  show atS σ k _ = _
  unfold atS
  rw [h]
  dsimp only
  rw [if_pos (len_ok' (by rw [vSI_len]; omega)), putK_vSI]
theorem bump_run {d nm : Nat} {ev : ME} {k : Nat} {l : List (List Nat × Int)} {x : List Nat} {v : Int} {ρ : Env1} {σ : St} (hd : kVar d ρ σ = some (.ref k, σ)) (hn : kVar nm ρ σ = some (.str x, σ)) (he : ev ρ σ = some (.int v, σ)) (h : σ[k]? = some (.dS (vSI l))) (hl : l.length ≤ 1000) :
    sSub (kVar d) (kVar nm) (k2 (binV .Add) (kMeth .get (kVar d) (kCons (kVar nm) (kCons (kV (.int 0)) kNil))) ev) (ρ, σ) = some (.next, ρ, σ.set k (.dS (vSI (bmp l x v)))) :=
  iSub (r2 (rMeth hd (mOkS h) (rCons hn (rOne rfl)) (oGet h)) he rfl) hd hn (oPutS h hl)
theorem fo_it {bd : V → Env1 → Option Env1} {B o : MS} {n : Nat} {it it' : It} {v : V} {ρ ρ1 : Env1} {σ : St} {r' : Env1 × St} {q : Option (Fl × Env1 × St)} (hn : nextIt it σ = some (some (v, it'))) (h1 : bd v ρ = some ρ1) (h2 : B (ρ1, σ) = some (.next, r')) (h : fo bd B o n it' r' = q) : fo bd B o (n + 1) it (ρ, σ) = q := by
  unfold fo
  rw [hn]
  dsimp only
  rw [h1]
  dsimp only
  rw [h2]
  exact h
theorem fo_end {bd : V → Env1 → Option Env1} {B o : MS} {n : Nat} {it : It} {ρ : Env1} {σ : St} (hn : nextIt it σ = some none) : fo bd B o (n + 1) it (ρ, σ) = o (ρ, σ) := by
  unfold fo
  rw [hn]
theorem nx_seq {k i : Nat} {l : List V} {σ : St} {o : Option V} (h : σ[k]? = some (.list l)) (hi : l[i]? = o) : nextIt (.seq k i) σ = some (o.map fun v => (v, .seq k (i + 1))) := by
  show atL σ k _ = _
  unfold atL
  rw [h, ← hi]
theorem nx_dk {k i : Nat} {l : List (Int × V)} {σ : St} {o : Option (Int × V)} (h : σ[k]? = some (.dI l)) (hi : l[i]? = o) : nextIt (.dk k l.length i) σ = some (o.map fun e => (.int e.1, .dk k l.length (i + 1))) := by
  show atI σ k _ = _
  unfold atI
  rw [h, ← hi]
  exact if_pos rfl
theorem drop_nil {α : Type} {l : List α} {i : Nat} (h : l.drop i = []) : l[i]? = none := List.getElem?_eq_none (List.drop_eq_nil_iff.mp h)
noncomputable def dueB (G : GX) : MS := sCons (sAsg 6 (kEs (callF G 14) (kCons (kVar 4) kNil))) (sCons (sAsg 7 (kMeth .join (kV (.str [44, 32])) (kCons dueC kNil))) (sCons (sSub (kVar 3) (kVar 7) (k2 (binV .Add) (kMeth .get (kVar 3) (kCons (kVar 7) (kCons (kV (.int 0)) kNil))) (kVar 5))) sNil))
noncomputable def nmA : List V := [.str [79, 80, 84, 73, 77, 73, 90, 69, 68], .str [78, 69, 87, 76, 79, 67, 65, 76, 83], .str [86, 65, 82, 65, 82, 71, 83], .str [86, 65, 82, 75, 69, 89, 87, 79, 82, 68, 83], .str [78, 69, 83, 84, 69, 68], .str [71, 69, 78, 69, 82, 65, 84, 79, 82], .str [78, 79, 70, 82, 69, 69]]
noncomputable def nmB : List V := [.str [67, 79, 82, 79, 85, 84, 73, 78, 69], .str [73, 84, 69, 82, 65, 66, 76, 69, 95, 67, 79, 82, 79, 85, 84, 73, 78, 69], .str [65, 83, 89, 78, 67, 95, 71, 69, 78, 69, 82, 65, 84, 79, 82], .str [48, 120, 52, 48, 48]]
noncomputable def kStrs : List V → MEs
  | [] => kNil
  | v :: l => kCons (kV v) (kStrs l)
noncomputable def b_due (G : GX) : MS := sCons (sAsg 2 (kEs fList (kStrs nmA))) (sCons (sAsg 2 (k2 (binV .Add) (kVar 2) (kEs fList (kStrs nmB)))) (sCons (sAsg 3 (kDict0 true)) (sCons (sForT [4, 5] (kVar 0) (dueB G)) (sCons (sRet (kVar 3)) sNil))))
noncomputable def IsPartF (G : GX) : Prop := ∀ s : Nat, 1 ≤ s → s ≤ 30 → G.F 14 [.int (s : Nat)] = some (.int (partP s : Nat), 0)
noncomputable def IsNm (G : GX) : Prop := ∀ p s : Nat, IsPart p → IsSh s → G.F 2 [.int ((p : Int) * 2 ^ s)] = some (.str (dueN p s), 0)
theorem callI {f : Nat} {i : Int} {t : T} {σ : St} (h : G.F f [.int i] = some (t, 0)) : callF G f [.int i] σ = some (thaw t σ) := call_of (ids := []) rfl (by decide) h rfl
theorem due_turn (hG : IsPartF G) (hs : IsSh s) {acc : List (List Nat × Int)} {side many : Nat} (h1 : 1 ≤ side) (h2 : side ≤ 30) (ha : acc.length ≤ 1000) :
    dueB G ([some (.ref 0), some (.int s), some (.ref 3), some (.ref 4), some (.int side), some (.int many), e, f], o0 :: o1 :: o2 :: .list (nmL.map .str) :: .dS (vSI acc) :: X) =
    some (.next, [some (.ref 0), some (.int s), some (.ref 3), some (.ref 4), some (.int side), some (.int many), some (.int (partP side : Nat)), some (.str (dueN (partP side) s))], o0 :: o1 :: o2 :: .list (nmL.map .str) :: .dS (vSI (bmp acc (dueN (partP side) s) many)) :: (X ++ [.list ((dueL (partP side) s).map .str)])) :=
  sNext (iAsg (rEs (rOne rfl) (callI (hG side h1 h2))) rfl) (sNext (iAsg (due_name (part_ok h1 h2) hs) rfl) (sLast (bump_run (k := 4) (x := dueN (partP side) s) (v := (many : Int)) rfl rfl rfl rfl ha)))
noncomputable def dueGo (s : Nat) : List (Nat × Nat) → List (List Nat × Int) → List (List Nat × Int)
  | [], acc => acc
  | e :: ts, acc => dueGo s ts (bmp acc (dueN (partP e.1) s) e.2)
theorem due_for (hG : IsPartF G) (hs : IsSh s) {all : List (Nat × Nat)} (ts : List (Nat × Nat)) : ∀ {i : Nat} {acc : List (List Nat × Int)} {X : St} {a b e f : Option V} {n : Nat}, all.drop i = ts → (∀ t ∈ ts, 1 ≤ t.1 ∧ t.1 ≤ 30) → acc.length + ts.length ≤ 1000 → ts.length < n →
    ∃ a' b' e' f' X', fo (bTup [4, 5]) (dueB G) sNil n (.seq 0 i) ([some (.ref 0), some (.int s), some (.ref 3), some (.ref 4), a, b, e, f], .list (vTies all) :: o1 :: o2 :: .list (nmL.map .str) :: .dS (vSI acc) :: X) =
      some (.next, [some (.ref 0), some (.int s), some (.ref 3), some (.ref 4), a', b', e', f'], .list (vTies all) :: o1 :: o2 :: .list (nmL.map .str) :: .dS (vSI (dueGo s ts acc)) :: X') := by
  induction ts with
  | nil =>
    intro i acc X a b e f n hd _ _ hn
    cases n with
    | zero => cases hn
    | succ n => exact ⟨_, _, _, _, _, fo_end (nx_seq (o := none) rfl (by rw [List.getElem?_map, drop_nil hd]; rfl))⟩
  | cons t ts ih =>
    intro i acc X a b e f n hd ht hl hn
    cases n with
    | zero => cases hn
    | succ n =>
      obtain ⟨hi, hd'⟩ := drop_cons hd
      have h1 := ht t List.mem_cons_self
      rw [List.length_cons] at hl
      obtain ⟨a', b', e', f', X', q⟩ := ih (acc := bmp acc (dueN (partP t.1) s) t.2) (X := X ++ [.list ((dueL (partP t.1) s).map .str)]) (a := some (.int t.1)) (b := some (.int t.2)) (e := some (.int (partP t.1 : Nat))) (f := some (.str (dueN (partP t.1) s))) (n := n) hd' (fun t h => ht t (List.mem_cons_of_mem _ h)) (by have := bump_len acc (dueN (partP t.1) s) t.2; omega) (Nat.lt_of_succ_lt_succ hn)
      exact ⟨a', b', e', f', X', fo_it (nx_seq (o := some (.tup [.int (t.1 : Int), .int (t.2 : Int)])) rfl (by rw [List.getElem?_map, hi]; rfl)) rfl (due_turn hG hs h1.1 h1.2 (by omega)) q⟩
noncomputable def tSI (l : List (List Nat × Int)) : List (List Nat × T) := l.map fun e => (e.1, .int e.2)
theorem frzD_SI (σ : St) (k : Nat) (es : List (List Nat × Int)) : frzD (frz σ (k + 1)) (vSI es) = some (tSI es, []) := by
  induction es with
  | nil => rfl
  | cons e es ih => exact frzD_cons (a := []) (b := []) rfl ih
theorem due_run (hG : IsPartF G) (hs : IsSh s) {ties : List (Nat × Nat)} (ht : ∀ t ∈ ties, 1 ≤ t.1 ∧ t.1 ≤ 30) (hl : ties.length ≤ 1000) :
    runF 8 (b_due G) [.list (tTies ties), .int s] = some (.dS (tSI (dueGo s ties [])), 0) := by
  obtain ⟨a, b, e, f, X, h⟩ := due_for (o1 := .list nmA) (o2 := .list nmB) hG hs (all := ties) ties (i := 0) (acc := []) (X := []) (a := none) (b := none) (e := none) (f := none) (n := 10000) rfl ht (by rw [List.length_nil]; omega) (by omega)
  refine runF_ret (vs := [.ref 0, .int s]) (σ0 := [.list (vTies ties)]) (ids := [4]) ?_ (sNext (iAsg rfl rfl) (sNext (iAsg rfl rfl) (sNext (iAsg rfl rfl) (sNext (iFor rfl rfl h) (sStop (iRet rfl)))))) (frz_dS (ids := []) rfl (frzD_SI _ _ _)) ?_ rfl
  · show (((V.ref (thaws (tTies ties) []).2.length) :: [V.int s]), (thaws (tTies ties) []).2 ++ [O.list (thaws (tTies ties) []).1]) = _
    rw [thaws_Ties]; rfl
  · exact (congrArg (true && true && ·) (same_up [.list (vTies ties)] (Up.app [.list (vTies ties)] _))).trans rfl
end
end
section
set_option backward.match.sparseCases false
open PySem
noncomputable def toldB (G : GX) : MS := sCons (sIf (tCmp .NotEq (k2 fIdx (kVar 0) (kVar 3)) (kV (.int 0))) (sCons (sAsg 4 (kEs (callF G 2) (kCons (k2 (binV .Mult) (kEs (callF G 14) (kCons (kVar 3) kNil)) (k2 (binV .Pow) (kV (.int 2)) (kVar 1))) kNil))) (sCons (sSub (kVar 2) (kVar 4) (k2 (binV .Add) (kMeth .get (kVar 2) (kCons (kVar 4) (kCons (kV (.int 0)) kNil))) (k2 fIdx (kVar 0) (kVar 3)))) sNil)) sNil) sNil
noncomputable def b_told (G : GX) : MS := sCons (sAsg 2 (kDict0 true)) (sCons (sFor 3 (kVar 0) (toldB G) sNil) (sCons (sRet (kVar 2)) sNil))
theorem getK_vD (es : List (Int × Int)) (k : Int) : getK (vD es) k = (getK es k).map V.int := getK_map V.int k es
theorem getK_mem {es : List (Int × Int)} {e : Int × Int} (h : e ∈ es) : ∃ v, getK es e.1 = some v := by
  unfold getK
  cases q : es.find? fun x => decide (x.1 = e.1) with
  | some x => exact ⟨_, rfl⟩
  | none => exact absurd (decide_eq_true (rfl : e.1 = e.1)) (List.find?_eq_none.mp q e h)
noncomputable def toldK (s : Nat) (es : List (Int × Int)) (k : Int) (acc : List (List Nat × Int)) : List (List Nat × Int) :=
  if (getK es k).getD 0 = 0 then acc else bmp acc (dueN (partP k.toNat) s) ((getK es k).getD 0)
section
variable {G : GX} {f : Option V} {s : Nat} {all es : List (Int × Int)}
theorem oPow2 {s : Nat} {σ : St} (hs : s ≤ 1000) : binV .Pow (.int 2) (.int (s : Nat)) σ = some (.int (2 ^ s), σ) := by
  have h : (small 2 && decide (0 ≤ (s : Int)) && decide ((s : Int) ≤ 1000)) = true := Bool.and_eq_true_iff.mpr ⟨Bool.and_eq_true_iff.mpr ⟨rfl, decide_eq_true (Int.natCast_nonneg s)⟩, decide_eq_true (Int.ofNat_le.mpr hs)⟩
  exact (if_pos h).trans (by rw [Int.toNat_natCast])
theorem oIdxD {k : Nat} {es : List (Int × V)} {i : Int} {v : V} {σ : St} (h : σ[k]? = some (.dI es)) (hv : getK es i = some v) : fIdx (.ref k) (.int i) σ = some (v, σ) := by
  show Option.map _ (atLI σ k _ _) = _
  unfold atLI
  rw [h]
  dsimp only
  rw [hv]; rfl
theorem sh_le (hs : IsSh s) : s ≤ 6 := (show ∀ s ∈ ([0, 1, 2, 3, 4, 5, 6] : List Nat), s ≤ 6 by decide) s hs
theorem part_le (side : Nat) (h : side ≤ 30) : partP side ≤ 31 := by
  unfold partP
  by_cases h : side % 2 = 0
  · rw [if_pos h]; omega
  · rw [if_neg h]; omega
theorem told_turn (hG : IsPartF G) (hN : IsNm G) (hs : IsSh s) {acc : List (List Nat × Int)} {side : Nat} (h1 : 1 ≤ side) (h2 : side ≤ 30) {v : Int} (hv : getK es (side : Int) = some v) (ha : acc.length ≤ 1000) :
    ∃ f', toldB G ([some (.ref 0), some (.int s), some (.ref 1), some (.int side), f], [.dI (vD es), .dS (vSI acc)]) =
    some (.next, [some (.ref 0), some (.int s), some (.ref 1), some (.int side), f'], [.dI (vD es), .dS (vSI (toldK s es side acc))]) := by
  have hi : ∀ {f : Option V}, k2 fIdx (kVar 0) (kVar 3) [some (.ref 0), some (.int s), some (.ref 1), some (.int (side : Int)), f] [.dI (vD es), .dS (vSI acc)] = some (.int v, [.dI (vD es), .dS (vSI acc)]) := fun {f} => r2 rfl rfl (oIdxD (es := vD es) rfl (by rw [getK_vD, hv]; rfl))
  rw [show toldK s es side acc = if v = 0 then acc else bmp acc (dueN (partP side) s) v by unfold toldK; rw [hv]; rfl]
  by_cases h0 : v = 0
  · rw [if_pos h0]
    exact ⟨f, sLast (iIfF (tC hi rfl (congrArg (fun b => some (!b)) (beq_iff_eq.mpr h0))) rfl)⟩
  · rw [if_neg h0]
    have hm : ∀ σ : St, binV .Mult (.int (partP side : Nat)) (.int (2 ^ s)) σ = some (.int ((partP side : Nat) * 2 ^ s), σ) := fun σ => if_pos (smallN (Nat.lt_of_le_of_lt (part_le side h2) (by decide)))
    exact ⟨_, sLast (iIfT (tC hi rfl (congrArg (fun b => some (!b)) (beq_eq_false_iff_ne.mpr h0))) (sNext (iAsg (rEs (rOne (r2 (rEs (rOne rfl) (callI (hG side h1 h2))) (r2 rfl rfl (oPow2 (Nat.le_trans (sh_le hs) (by decide)))) (hm _))) (callI (hN (partP side) s (part_ok h1 h2) hs))) rfl)
      (sLast (bump_run (k := 1) (x := dueN (partP side) s) (v := v) rfl rfl hi rfl ha))))⟩
noncomputable def toldGo (s : Nat) (es : List (Int × Int)) : List (Int × Int) → List (List Nat × Int) → List (List Nat × Int)
  | [], acc => acc
  | e :: r, acc => toldGo s es r (toldK s es e.1 acc)
theorem toldK_len (s : Nat) (es : List (Int × Int)) (k : Int) (acc : List (List Nat × Int)) : (toldK s es k acc).length ≤ acc.length + 1 := by
  unfold toldK
  by_cases h : (getK es k).getD 0 = 0
  · rw [if_pos h]; exact Nat.le_succ _
  · rw [if_neg h]; exact bump_len _ _ _
theorem told_for (hG : IsPartF G) (hN : IsNm G) (hs : IsSh s) (ht : ∀ e ∈ all, ∃ k : Nat, e.1 = (k : Int) ∧ 1 ≤ k ∧ k ≤ 30) (es : List (Int × Int)) : ∀ {i : Nat} {acc : List (List Nat × Int)} {a f : Option V} {n : Nat}, all.drop i = es → acc.length + es.length ≤ 1000 → es.length < n →
    ∃ a' f', fo (fun v ρ => setL ρ 3 v) (toldB G) sNil n (.dk 0 (vD all).length i) ([some (.ref 0), some (.int s), some (.ref 1), a, f], [.dI (vD all), .dS (vSI acc)]) =
      some (.next, [some (.ref 0), some (.int s), some (.ref 1), a', f'], [.dI (vD all), .dS (vSI (toldGo s all es acc))]) := by
  induction es with
  | nil =>
    intro i acc a f n hd _ hn
    cases n with
    | zero => cases hn
    | succ n => exact ⟨_, _, fo_end (nx_dk (o := none) rfl (by rw [List.getElem?_map, drop_nil hd]; rfl))⟩
  | cons e es ih =>
    intro i acc a f n hd hl hn
    cases n with
    | zero => cases hn
    | succ n =>
      obtain ⟨hi, hd'⟩ := drop_cons hd
      have hm := List.mem_of_getElem? hi
      obtain ⟨k, hk, h1, h2⟩ := ht e hm
      obtain ⟨v, hv⟩ := getK_mem hm
      rw [List.length_cons] at hl
      have hlen := toldK_len s all e.1 acc
      obtain ⟨f1, q1⟩ := told_turn (f := f) hG hN hs (acc := acc) h1 h2 (hk ▸ hv) (by omega)
      rw [← hk] at q1
      obtain ⟨a', f', q⟩ := ih (acc := toldK s all e.1 acc) (a := some (.int e.1)) (f := f1) (n := n) hd' (by omega) (Nat.lt_of_succ_lt_succ hn)
      exact ⟨a', f', fo_it (nx_dk (o := some (e.1, .int e.2)) rfl (by rw [List.getElem?_map, hi]; rfl)) rfl q1 q⟩
theorem thawsI_D (es : List (Int × Int)) (σ : St) : thawsI (tD es) σ = (vD es, σ) := by
  induction es with
  | nil => rfl
  | cons e es ih => show (((e.1, V.int e.2) :: (thawsI (tD es) σ).1, (thawsI (tD es) σ).2) : List (Int × V) × St) = _; rw [ih]; rfl
theorem told_run (hG : IsPartF G) (hN : IsNm G) (hs : IsSh s) (ht : ∀ e ∈ es, ∃ k : Nat, e.1 = (k : Int) ∧ 1 ≤ k ∧ k ≤ 30) (hl : es.length ≤ 1000) :
    runF 5 (b_told G) [.dI (tD es), .int s] = some (.dS (tSI (toldGo s es es [])), 0) := by
  obtain ⟨a, f, h⟩ := told_for hG hN hs ht es (i := 0) (acc := []) (a := none) (f := none) (n := 10000) rfl (by rw [List.length_nil]; omega) (by omega)
  refine runF_ret (vs := [.ref 0, .int s]) (σ0 := [.dI (vD es)]) (ids := [1]) ?_ (sNext (iAsg rfl rfl) (sNext (iFor rfl rfl h) (sStop (iRet rfl)))) (frz_dS (ids := []) rfl (frzD_SI _ _ _)) ?_ rfl
  · show (((V.ref (thawsI (tD es) []).2.length) :: [V.int s]), (thawsI (tD es) []).2 ++ [O.dI (thawsI (tD es) []).1]) = _
    rw [thawsI_D]; rfl
  · exact (congrArg (true && true && ·) (same_up [.dI (vD es)] (Up.app [.dI (vD es)] _))).trans rfl
end
end
section
set_option backward.match.sparseCases false
open PySem
theorem thawsS_SI (es : List (List Nat × Int)) (σ : St) : thawsS (tSI es) σ = (vSI es, σ) := by
  induction es with
  | nil => rfl
  | cons e es ih => show (((e.1, V.int e.2) :: (thawsS (tSI es) σ).1, (thawsS (tSI es) σ).2) : List (List Nat × V) × St) = _; rw [ih]; rfl
theorem vints_SI (es : List (List Nat × Int)) : vints (vSI es) = some es := by
  induction es with
  | nil => rfl
  | cons e es ih => show Option.map ((e.1, e.2) :: ·) (vints (vSI es)) = _; rw [ih]; rfl
noncomputable def wordsC (G : GX) : ME := kLcomp [(3, 7), (4, 6)] 5 1 (kEs (biV .range) (kCons (kV (.int 5)) kNil)) (tNil true) (kEs (callF G 11) (kCons (k2 fIdx (kVar 4) (kVar 1)) (kCons (kVar 3) kNil)))
noncomputable def b_law (G : GX) : MS := sCons (sAsg 1 (kEs (callF G 7) (kCons (kVar 0) kNil))) (sCons (sAsgT [2, 3] (kEs (callF G 8) (kCons (kVar 1) kNil))) (sCons (sAsg 4 (kEs (callF G 5) (kCons (kVar 2) kNil))) (sCons (sAsgT [5, 6] (kEs (callF G 9) (kCons (kVar 4) kNil))) (sCons (sAsg 7 (kEs (callF G 10) (kCons (kVar 4) (kCons (kVar 5) kNil)))) (sCons (sAsg 8 (wordsC G)) (sCons (sAsg 9 (k2 (binV .Mod) (k2 (binV .FloorDiv) (k2 fIdx (kVar 1) (kV (.int 3))) (kV (.int 20))) (kV (.int 7)))) (sCons (sRet (k2 (fCmp .Eq) (kEs (callF G 15) (kCons (kEs (callF G 13) (kCons (kEs (callF G 12) (kCons (kVar 8) kNil)) kNil)) (kCons (kVar 9) kNil))) (kEs (callF G 16) (kCons (kVar 3) (kCons (kVar 9) kNil))))) sNil)))))))
section
variable {G : GX} {o0 o1 o2 o3 o4 o5 : O} {X : St} {line left sg : List Nat} {ties prs : List (Nat × Nat)} {sp es : List (Int × Int)} {spot : Nat → Nat} {w : Nat → List Nat} {ds : Nat → Int} {x y : List (List Nat × Int)} {nums : List Int} {i : Int}
theorem callR {f : Nat} {vs : List V} {σ σ' : St} {ts : List T} {ids : List Nat} {t : T} {v : V} (h : frzL (frz σ 8) vs = some (ts, ids)) (hn : ids.Nodup) (hF : G.F f ts = some (t, 0)) (ht : thaw t σ = (v, σ')) : callF G f vs σ = some (v, σ') := (call_of h hn hF rfl).trans (congrArg some ht)
theorem thZ (ns : List Int) (σ : St) : thaws (ns.map .int) σ = (ns.map .int, σ) := by
  induction ns with
  | nil => rfl
  | cons n ns ih => show ((V.int n :: (thaws (ns.map .int) σ).1, (thaws (ns.map .int) σ).2) : List V × St) = _; rw [ih]; rfl
theorem thTies (σ : St) : thaw (.list (tTies ties)) σ = (.ref σ.length, σ ++ [.list (vTies ties)]) := by
  show (V.ref (thaws (tTies ties) σ).2.length, (thaws (tTies ties) σ).2 ++ [O.list (thaws (tTies ties) σ).1]) = _
  rw [thaws_Ties]
theorem thI (σ : St) : thaw (.list (tI sg)) σ = (.ref σ.length, σ ++ [.list (vI sg)]) := by
  show (V.ref (thaws (tI sg) σ).2.length, (thaws (tI sg) σ).2 ++ [O.list (thaws (tI sg) σ).1]) = _
  rw [thaws_I]
theorem thD (σ : St) : thaw (.dI (tD sp)) σ = (.ref σ.length, σ ++ [.dI (vD sp)]) := by
  show (V.ref (thawsI (tD sp) σ).2.length, (thawsI (tD sp) σ).2 ++ [O.dI (thawsI (tD sp) σ).1]) = _
  rw [thawsI_D]
theorem thS (σ : St) : thaw (.dS (tSI x)) σ = (.ref σ.length, σ ++ [.dS (vSI x)]) := by
  show (V.ref (thawsS (tSI x) σ).2.length, (thawsS (tSI x) σ).2 ++ [O.dS (thawsS (tSI x) σ).1]) = _
  rw [thawsS_SI]
theorem c7 (h : G.F 7 [.adr scrA] = some (.list (nums.map .int), 0)) : callF G 7 [.adr scrA] [] = some (.ref 0, [.list (nums.map .int)]) := callR (ids := []) rfl (by decide) h (by
  show (V.ref (thaws (nums.map .int) []).2.length, (thaws (nums.map .int) []).2 ++ [O.list (thaws (nums.map .int) []).1]) = _
  rw [thZ]; rfl)
theorem c8 (h : G.F 8 [.list (nums.map .int)] = some (.tup [.str line, .list (tTies ties)], 0)) : callF G 8 [.ref 0] [.list (nums.map .int)] = some (.tup [.str line, .ref 1], [.list (nums.map .int), .list (vTies ties)]) :=
  callR (ids := [0]) (frzL_cons (a := [0]) (b := []) (frz_list (ids := []) rfl (frzL_Z _ _ _)) rfl) (by decide) h (by
    show (V.tup [.str line, (thaw (.list (tTies ties)) [.list (nums.map .int)]).1], (thaw (.list (tTies ties)) [.list (nums.map .int)]).2) = _
    rw [thTies]; rfl)
theorem c9 (h : G.F 9 [.str left] = some (.tup [.list (tI sg), .dI (tD sp)], 0)) : callF G 9 [.str left] [o0, o1] = some (.tup [.ref 2, .ref 3], [o0, o1, .list (vI sg), .dI (vD sp)]) := callR (ids := []) rfl (by decide) h (by
  show (V.tup [(thaw (.list (tI sg)) [o0, o1]).1, (thaw (.dI (tD sp)) (thaw (.list (tI sg)) [o0, o1]).2).1], (thaw (.dI (tD sp)) (thaw (.list (tI sg)) [o0, o1]).2).2) = _
  rw [thI, thD]; rfl)
theorem c10 (h : G.F 10 [.str left, .list (tI sg)] = some (.list (tTies prs), 0)) : callF G 10 [.str left, .ref 2] [o0, o1, .list (vI sg), o3] = some (.ref 4, [o0, o1, .list (vI sg), o3, .list (vTies prs)]) :=
  callR (ids := [2]) (frzL_cons (a := []) rfl (frzL_cons (a := [2]) (b := []) (frz_list (ids := []) rfl (frzL_I _ _ _)) rfl)) (by decide) h (thTies _)
noncomputable def wdV (w : Nat → List Nat) : V → V
  | .int i => .str (w i.toNat)
  | v => v
theorem c11 {a b c d e f h i : Option V} (hsp : ∀ k : Nat, k < 5 → getK sp (k : Int) = some ((spot k : Nat) : Int)) (hw : ∀ k : Nat, k < 5 → G.F 11 [.int ((spot k : Nat) : Int), .list (tTies prs)] = some (.str (w k), 0)) :
    wordsC G [a, b, c, d, e, f, some (.ref 3), some (.ref 4), h, i] [o0, o1, o2, .dI (vD sp), .list (vTies prs)] = some (.ref 5, [o0, o1, o2, .dI (vD sp), .list (vTies prs), .list [.str (w 0), .str (w 1), .str (w 2), .str (w 3), .str (w 4)]]) :=
  have h := lc_map (fr := [(3, 7), (4, 6)]) (nv := 5) (X := 1) (it := kEs (biV .range) (kCons (kV (.int 5)) kNil)) (elt := kEs (callF G 11) (kCons (k2 fIdx (kVar 4) (kVar 1)) (kCons (kVar 3) kNil))) (ρ := [a, b, c, d, e, f, some (.ref 3), some (.ref 4), h, i]) (σ := [o0, o1, o2, .dI (vD sp), .list (vTies prs)]) (g := wdV w) (R := fun v => [none, some v, none, some (.ref 4), some (.ref 3)]) (rEs (rOne rfl) (rangeB (n := 5) (by decide))) (iter_rng _ 5) (yl_vs _) (by rw [List.length_map, List.length_range]; decide) (fun v => rfl) fun v hv => by
    obtain ⟨k, hk, rfl⟩ := List.mem_map.mp hv
    have hk5 := List.mem_range.mp hk
    exact rEs (rCons (r2 rfl rfl (oIdxD (es := vD sp) rfl (by rw [getK_vD, hsp k hk5]; rfl))) (rOne rfl)) (callR (ids := [4]) (frzL_cons (a := []) rfl (frzL_cons (a := [4]) (b := []) (frz_list (ids := []) rfl (frzL_Ties _ _ _)) rfl)) (by decide) (hw k hk5) rfl)
  h
noncomputable def tabO (ds : Nat → Int) : St := [.dI [(2, .int (ds 0)), (4, .int (ds 1)), (8, .int (ds 3)), (16, .int (ds 6))], .dI [(1, .int (ds 0)), (4, .int (ds 2)), (8, .int (ds 4)), (16, .int (ds 7))], .dI [(1, .int (ds 1)), (2, .int (ds 2)), (8, .int (ds 5)), (16, .int (ds 8))], .dI [(1, .int (ds 3)), (2, .int (ds 4)), (4, .int (ds 5)), (16, .int (ds 9))], .dI [(1, .int (ds 6)), (2, .int (ds 7)), (4, .int (ds 8)), (8, .int (ds 9))], .dI [(1, .ref 6), (2, .ref 7), (4, .ref 8), (8, .ref 9), (16, .ref 10)]]
theorem c12 (h : G.F 12 [.list [.str (w 0), .str (w 1), .str (w 2), .str (w 3), .str (w 4)]] = some (tblT ds, 0)) : callF G 12 [.ref 5] [o0, o1, o2, o3, o4, .list [.str (w 0), .str (w 1), .str (w 2), .str (w 3), .str (w 4)]] = some (.ref 11, o0 :: o1 :: o2 :: o3 :: o4 :: .list [.str (w 0), .str (w 1), .str (w 2), .str (w 3), .str (w 4)] :: tabO ds) :=
  callR (ids := [5]) (by kernel_rfl) (by decide) h (by kernel_rfl)
theorem c13 (h : G.F 13 [tblT ds] = some (.dI (tD es), 0)) : callF G 13 [.ref 11] (o0 :: o1 :: o2 :: o3 :: o4 :: o5 :: tabO ds) = some (.ref 12, (o0 :: o1 :: o2 :: o3 :: o4 :: o5 :: tabO ds) ++ [.dI (vD es)]) :=
  callR (ids := [6, 7, 8, 9, 10, 11]) (by kernel_rfl) (by decide) h (thD _)
theorem c15 (h : G.F 15 [.dI (tD es), .int i] = some (.dS (tSI x), 0)) : callF G 15 [.ref 12, .int i] ((o0 :: o1 :: o2 :: o3 :: o4 :: o5 :: tabO ds) ++ [.dI (vD es)]) = some (.ref 13, (o0 :: o1 :: o2 :: o3 :: o4 :: o5 :: tabO ds) ++ [.dI (vD es)] ++ [.dS (vSI x)]) :=
  callR (ids := [12]) (frzL_cons (a := [12]) (b := []) (frz_dI (ids := []) rfl (frzD_D _)) rfl) (by decide) h (thS _)
theorem c16 (h : G.F 16 [.list (tTies ties), .int i] = some (.dS (tSI y), 0)) : callF G 16 [.ref 1, .int i] (o0 :: .list (vTies ties) :: X) = some (.ref (X.length + 2), (o0 :: .list (vTies ties) :: X) ++ [.dS (vSI y)]) :=
  callR (ids := [1]) (frzL_cons (a := [1]) (b := []) (frz_list (ids := []) rfl (frzL_Ties _ _ _)) rfl) (by decide) h (thS _)
theorem cEqS {j k : Nat} {σ : St} (hj : σ[j]? = some (.dS (vSI x))) (hk : σ[k]? = some (.dS (vSI y))) (hn : j ≠ k) : cmpV σ .Eq (.ref j) (.ref k) = some (eqD x y) := by
  show eqRef σ j k = _
  unfold eqRef atS
  rw [hj]
  dsimp only
  rw [hk]
  dsimp only
  rw [vints_SI, vints_SI]
  exact if_neg hn
theorem law_run {a b c d : Nat}
    (h7 : G.F 7 [.adr scrA] = some (.list [.int a, .int b, .int c, .int d], 0))
    (h8 : G.F 8 [.list [.int a, .int b, .int c, .int d]] = some (.tup [.str line, .list (tTies ties)], 0))
    (h5 : G.F 5 [.str line] = some (.str left, 0))
    (h9 : G.F 9 [.str left] = some (.tup [.list (tI sg), .dI (tD sp)], 0))
    (h10 : G.F 10 [.str left, .list (tI sg)] = some (.list (tTies prs), 0))
    (hsp : ∀ k : Nat, k < 5 → getK sp (k : Int) = some ((spot k : Nat) : Int))
    (h11 : ∀ k : Nat, k < 5 → G.F 11 [.int ((spot k : Nat) : Int), .list (tTies prs)] = some (.str (w k), 0))
    (h12 : G.F 12 [.list [.str (w 0), .str (w 1), .str (w 2), .str (w 3), .str (w 4)]] = some (tblT ds, 0))
    (h13 : G.F 13 [tblT ds] = some (.dI (tD es), 0))
    (hd : d < 1000000)
    (h15 : G.F 15 [.dI (tD es), .int (d / 20 % 7 : Nat)] = some (.dS (tSI x), 0))
    (h16 : G.F 16 [.list (tTies ties), .int (d / 20 % 7 : Nat)] = some (.dS (tSI y), 0))
    (hxy : eqD x y = true) : runF 10 (b_law G) [.adr scrA] = some (.bool true, 0) :=
  have e0 : ([.int a, .int b, .int c, .int d] : List V) = ([(a : Int), b, c, d] : List Int).map .int := rfl
  runF_ret (vs := [.adr scrA]) (σ0 := []) (v := .bool true) (ids := []) rfl (sNext (iAsg (rEs (rOne rfl) (c7 (nums := [(a : Int), b, c, d]) h7)) rfl) (sNext (iAsgT (rEs (rOne rfl) (c8 (nums := [(a : Int), b, c, d]) h8)) rfl rfl) (sNext (iAsg (rEs (rOne rfl) (callF1 h5)) rfl)
    (sNext (iAsgT (rEs (rOne rfl) (c9 h9)) rfl rfl) (sNext (iAsg (rEs (rCons rfl (rOne rfl)) (c10 h10)) rfl) (sNext (iAsg (c11 hsp h11) rfl) (sNext (iAsg (r2 (r2 (r2 rfl rfl (oIdxL (i := 3) (l := [.int a, .int b, .int c, .int d]) rfl (by decide) rfl)) rfl (oDiv d 20 (by decide) (by omega))) rfl (oMod _ 7 (by decide))) rfl)
      (sStop (iRet (r2 (rEs (rCons (rEs (rOne (rEs (rOne rfl) (c12 h12))) (c13 h13)) (rOne rfl)) (c15 h15)) (rEs (rCons rfl (rOne rfl)) (c16 h16)) (congrArg (Option.map fun b => (V.bool b, _)) ((cEqS (j := 13) (k := 14) (x := x) (y := y) rfl rfl (by decide)).trans (congrArg some hxy)))))))))))))
    rfl rfl rfl
end
end
section
set_option backward.match.sparseCases false
open PySem
noncomputable def b_jn (G : GX) : MS := sCons (sAsg 1 (kDict0 false)) (sCons (sWh (tCmp .Gt (kEs (biV .len) (kCons (kVar 0) kNil)) (kV (.int 3)))
   (sCons (sAsg 2 (k2 (binV .Sub) (kEs (biV .len) (kCons (kVar 0) kNil)) (kV (.int 2))))
   (sCons (sAsg 3 (kDcomp [(3, 0)] 4 1 (kVar 0) (tNil true) (kVar 1) (kSumVals (k2 fIdx (kVar 3) (kVar 1)))))
   (sCons (sAsg 4 (kLcomp2 [(3, 2), (4, 3), (5, 0)] 6 1 (kVar 0) 2 (k2 fIdx (kVar 5) (kVar 1)) (tCons true (tCmp .Lt (kVar 1) (kVar 2)) (tNil true)) (kEs fTup (kCons (k2 (binV .Sub) (k2 (binV .Sub) (k2 (binV .Mult) (kVar 3) (k2 fIdx (k2 fIdx (kVar 5) (kVar 1)) (kVar 2))) (k2 fIdx (kVar 4) (kVar 1))) (k2 fIdx (kVar 4) (kVar 2))) (kCons (kVar 1) (kCons (kVar 2) kNil))))))
   (sCons (sAsgT [5, 6, 7] (kEs (biV .minL) (kCons (kVar 4) kNil)))
   (sCons (sAsg 8 (k2 fIdx (k2 fIdx (kVar 0) (kVar 6)) (kVar 7)))
   (sCons (sSub (kVar 1) (kVar 6) (k2 (binV .FloorDiv) (k2 (binV .Sub) (k2 (binV .Add) (k2 (binV .Mult) (kVar 2) (kVar 8)) (k2 fIdx (kVar 3) (kVar 6))) (k2 fIdx (kVar 3) (kVar 7))) (k2 (binV .Mult) (kV (.int 2)) (kVar 2))))
   (sCons (sSub (kVar 1) (kVar 7) (k2 (binV .Sub) (kVar 8) (k2 fIdx (kVar 1) (kVar 6))))
   (sCons (sAsg 10 (kDcomp [(2, 8), (3, 6), (4, 0), (5, 7)] 6 1 (kVar 0) (tCons true (tCmp .NotIn (kVar 1) (kEs fTup (kCons (kVar 3) (kCons (kVar 5) kNil)))) (tNil true)) (kVar 1) (k2 (binV .FloorDiv) (k2 (binV .Sub) (k2 (binV .Add) (k2 fIdx (k2 fIdx (kVar 4) (kVar 3)) (kVar 1)) (k2 fIdx (k2 fIdx (kVar 4) (kVar 5)) (kVar 1))) (kVar 2)) (kV (.int 2)))))
   (sCons (sAsg 0 (kDcomp [(2, 10), (3, 0)] 4 1 (kVar 10) (tNil true) (kVar 1) (kDcomp [(2, 1), (3, 3)] 4 1 (kVar 2) (tCons true (tCmp .NotEq (kVar 1) (kVar 2)) (tNil true)) (kVar 1) (k2 fIdx (k2 fIdx (kVar 3) (kVar 2)) (kVar 1)))))
   (sCons (sFor 9 (kVar 10) (sCons (sSub (k2 fIdx (kVar 0) (kVar 9)) (k2 (binV .Add) (kVar 6) (kVar 7)) (k2 fIdx (kVar 10) (kVar 9))) sNil) sNil)
   (sCons (sSub (kVar 0) (k2 (binV .Add) (kVar 6) (kVar 7)) (kVar 10)) sNil))))))))))))
   (sCons (sAsgT [11, 12, 13] (kEs (biV .list) (kCons (kVar 0) kNil)))
   (sCons (sSub (kVar 1) (kVar 11) (k2 (binV .FloorDiv) (k2 (binV .Sub) (k2 (binV .Add) (k2 fIdx (k2 fIdx (kVar 0) (kVar 11)) (kVar 12)) (k2 fIdx (k2 fIdx (kVar 0) (kVar 11)) (kVar 13))) (k2 fIdx (k2 fIdx (kVar 0) (kVar 12)) (kVar 13))) (kV (.int 2))))
   (sCons (sSub (kVar 1) (kVar 12) (k2 (binV .Sub) (k2 fIdx (k2 fIdx (kVar 0) (kVar 11)) (kVar 12)) (k2 fIdx (kVar 1) (kVar 11))))
   (sCons (sSub (kVar 1) (kVar 13) (k2 (binV .Sub) (k2 fIdx (k2 fIdx (kVar 0) (kVar 11)) (kVar 13)) (k2 fIdx (kVar 1) (kVar 11))))
   (sCons (sRet (kVar 1)) sNil))))))
noncomputable def b_pf (G : GX) : MS := sCons (sAsg 1 (kEs fList kNil)) (sCons (sFor 2 (kEs (biV .range) (kCons (kV (.int 32)) kNil))
    (sCons (sAsg 3 (k2 (binV .LShift) (kV (.int 1)) (kVar 2))) (sCons (sIf (tV (k2 (binV .BitAnd) (kVar 0) (kVar 3))) (sCons (sExpr (kMeth .append (kVar 1) (kCons (kFlag G (kVar 3) (kEs (biV .hex) (kCons (kVar 3) kNil))) kNil))) (sCons (sAug 0 .BitXor (kVar 3)) (sCons (sIf (tNot (tV (kVar 0))) (sCons sBrk sNil) sNil) sNil))) sNil) sNil))
    (sCons (sExpr (kMeth .append (kVar 1) (kCons (kEs (biV .hex) (kCons (kVar 0) kNil)) kNil))) sNil)) (sCons (sRet (kMeth .join (kV (.str [44, 32])) (kCons (kVar 1) kNil))) sNil))
noncomputable def flagsT : List (Int × List Nat) := [(1, [79, 80, 84, 73, 77, 73, 90, 69, 68]), (2, [78, 69, 87, 76, 79, 67, 65, 76, 83]), (4, [86, 65, 82, 65, 82, 71, 83]), (8, [86, 65, 82, 75, 69, 89, 87, 79, 82, 68, 83]), (16, [78, 69, 83, 84, 69, 68]), (32, [71, 69, 78, 69, 82, 65, 84, 79, 82]), (64, [78, 79, 70, 82, 69, 69]), (128, [67, 79, 82, 79, 85, 84, 73, 78, 69]), (256, [73, 84, 69, 82, 65, 66, 76, 69, 95, 67, 79, 82, 79, 85, 84, 73, 78, 69]), (512, [65, 83, 89, 78, 67, 95, 71, 69, 78, 69, 82, 65, 84, 79, 82])]
noncomputable def gintsT : List Int := [40, 2, 1]
noncomputable def tabL : List (Option (Nat × Nat × (GX → MS))) := [some (2, 2, b_su), some (14, 3, b_lv), some (4, 1, b_pf), some (3, 1, b_vn), none, some (6, 1, b_str), some (4, 1, b_chk), some (2, 1, b_nm), some (11, 1, b_la), some (5, 1, b_rd), some (6, 2, b_pa), some (4, 2, b_wo), some (5, 1, b_ta), some (14, 1, b_jn), some (1, 1, b_part), some (5, 2, b_told), some (8, 2, b_due), some (10, 1, b_law)]
noncomputable def tabT (f : Nat) : Option (Nat × Nat × (GX → MS)) := (tabL[f]?).join
noncomputable abbrev GLw (ns : List Int) (k : Nat) : GX := GT gintsT flagsT tabT (roN ns) k
section
variable {ns : List Int} {k : Nat}
theorem gt_ints : (GLw ns k).gints = [40, 2, 1] := by cases k <;> rfl
theorem gt_flags : (GLw ns k).flags = flagsT := by cases k <;> rfl
theorem gt_ro : (GLw ns k).ro = roN ns := by cases k <;> rfl
noncomputable def sumL (l : List (List Nat)) : Nat := (l.map List.length).sum
theorem sumL_app (a : List (List Nat)) (x : List Nat) : sumL (a ++ [x]) = sumL a + x.length := by
  unfold sumL
  rw [List.map_append, List.sum_append]; rfl
theorem strQ_sum {x : List Nat} {z z' : SZ} {i c : Nat} (h : strQ x z i c = some z') : sumL z'.acc ≤ sumL z.acc + x.length := by
  obtain rfl := Option.some.inj h
  obtain ⟨st, op, acc⟩ := z
  by_cases h1 : c = 34
  · rw [if_pos h1]
    cases op with
    | none => exact Nat.le_add_right _ _
    | some p =>
      show sumL (if st = p then acc else acc ++ [cut x st p]) ≤ _
      by_cases h2 : st = p
      · rw [if_pos h2]; exact Nat.le_add_right _ _
      · rw [if_neg h2, sumL_app]; exact Nat.add_le_add_left (cut_le ..) _
  · rw [if_neg h1]; exact Nat.le_add_right _ _
theorem escF_sum {x : List Nat} (r : List Nat) : ∀ {i : Nat} {e : Bool} {z z' : SZ}, escF (strQ x) i e z r = some z' → sumL z'.acc ≤ sumL z.acc + r.length * x.length := by
  induction r with
  | nil => intro i e z z' h; cases h; exact Nat.le_add_right _ _
  | cons c r ih =>
    intro i e z z' h
    rw [List.length_cons, Nat.add_mul, Nat.one_mul]
    cases e with
    | true => exact Nat.le_trans (ih (e := false) h) (by omega)
    | false =>
      by_cases hc : c = 92
      · exact Nat.le_trans (ih (e := true) ((if_pos hc).symm.trans h)) (by omega)
      · have h : escF (strQ x) (i + 1) false _ r = some z' := (if_neg hc).symm.trans h
        exact Nat.le_trans (ih h) (by have := strQ_sum (x := x) (z := z) (i := i) (c := c) rfl; omega)
theorem strGo_sum (x : List Nat) : sumL (strGo x 0 false 0 none [] x).2 ≤ x.length * x.length := by
  obtain ⟨z, h1, h2⟩ := strF x x 0 false ⟨0, none, []⟩
  rw [show strGo x 0 false 0 none [] x = (z.st, z.acc) from h2]
  exact Nat.le_trans (escF_sum x h1) (Nat.le_of_eq (Nat.zero_add _))
theorem str_sum (x : List Nat) : sumL (if (strGo x 0 false 0 none [] x).1 < x.length then (strGo x 0 false 0 none [] x).2 ++ [cut x (strGo x 0 false 0 none [] x).1 x.length] else (strGo x 0 false 0 none [] x).2) ≤ x.length * x.length + x.length := by
  have h := strGo_sum x
  by_cases h1 : (strGo x 0 false 0 none [] x).1 < x.length
  · rw [if_pos h1, sumL_app]; exact Nat.add_le_add h (cut_le ..)
  · rw [if_neg h1]; exact Nat.le_trans h (Nat.le_add_right _ _)
theorem sq_le {a b : Nat} (h : a ≤ b) : a * a + a ≤ b * b + b := Nat.add_le_add (Nat.mul_le_mul h h) h
theorem str_run' {G : GX} {x : List Nat} (hx : x.length ≤ 300) : runF 6 (b_str G) [.str x] = some (.str (stripP x), 0) :=
  str_run (Nat.le_trans hx (by decide)) (len_ok' (Nat.le_trans (str_sum x) (Nat.le_trans (sq_le hx) (by decide))))
theorem strip_len {x : List Nat} (hx : x.length ≤ 200) : (stripP x).length ≤ 40200 := by
  unfold stripP
  by_cases h : x.contains 34 = true
  · rw [if_pos h]
    dsimp only
    rw [joinS_nil, List.length_flatten]
    exact Nat.le_trans (str_sum x) (Nat.le_trans (sq_le hx) (by decide))
  · rw [if_neg h]; exact Nat.le_trans hx (by decide)
theorem g_strip {x : List Nat} (hx : x.length ≤ 300) : (GLw ns (k + 1)).F 5 [.str x] = some (.str (stripP x), 0) := str_run' hx
theorem g_check : IsCheck (GLw ns (k + 2)) := fun y hy => chk_run (g_strip (Nat.le_trans hy (by decide))) (len_ok' (Nat.le_trans (strip_len hy) (by decide)))
theorem g_varint : IsVarint (GLw ns (k + 1)) := fun _ _ _ _ h hn => vn_run h hn
theorem g_sub : IsSub (GLw ns (k + 1)) := fun _ _ ha hb => su_run gt_ints ha hb
theorem g_lev : IsLev (GLw ns (k + 2)) := fun _ _ _ ha hb hab hl => lv_run g_sub gt_ints ha hb hab hl
theorem g_part : IsPartF (GLw ns (k + 1)) := fun _ h1 h2 => part_run h1 h2
noncomputable def pfG : GX := ⟨[], flagsT, fun _ _ => none, fun _ => none⟩
theorem pf_G {G : GX} (h : G.flags = flagsT) : b_pf G = b_pf pfG := by
  have : ∀ a b, kFlag G a b = kFlag pfG a b := fun a b => by unfold kFlag; rw [h]; rfl
  unfold b_pf
  rw [this]
theorem pf_case {p s : Nat} (hp : IsPart p) (hs : IsSh s) : runF 4 (b_pf pfG) [.int ((p : Int) * 2 ^ s)] = some (.str (dueN p s), 0) := by
  have h : psL.map (fun q : Nat × Nat => runF 4 (b_pf pfG) [.int ((q.1 : Int) * 2 ^ q.2)]) = psL.map fun q => some (.str (dueN q.1 q.2), 0) := by kernel_rfl
  have := by_map h (ps_mem hp hs)
  dsimp only at this
  exact this
theorem g_nm : IsNm (GLw ns (k + 1)) := fun p s hp hs => by
  show runF 4 (b_pf (GLw ns k)) _ = _
  rw [pf_G gt_flags]
  exact pf_case hp hs
end
end
section
set_option backward.match.sparseCases false
open PySem
noncomputable def mapK (s : Nat) (l : List (Nat × Int)) : List (List Nat × Int) := l.map fun e => (dueN e.1 s, e.2)
noncomputable def Parts (l : List (Nat × Int)) : Prop := ∀ e ∈ l, IsPart e.1
theorem dueN_dec : ∀ s ∈ ([0, 1, 2, 3, 4, 5, 6] : List Nat), ∀ p ∈ ([2, 4, 6, 8, 10, 12, 14, 16, 18, 20, 22, 24, 26, 28, 30] : List Nat), ∀ q ∈ ([2, 4, 6, 8, 10, 12, 14, 16, 18, 20, 22, 24, 26, 28, 30] : List Nat), dueN p s = dueN q s → p = q := by decide +kernel
section
variable {s k : Nat} {l : List (Nat × Int)} {v : Int}
theorem dueN_iff {p q : Nat} (hs : IsSh s) (hp : IsPart p) (hq : IsPart q) : decide (dueN p s = dueN q s) = decide (p = q) :=
  decide_eq_decide.mpr ⟨dueN_dec s hs p hp q hq, fun h => congrArg (dueN · s) h⟩
theorem getK_mapK (hs : IsSh s) (hk : IsPart k) (h : Parts l) : getK (mapK s l) (dueN k s) = getK l k := by
  induction l with
  | nil => rfl
  | cons e l ih =>
    have ih := ih fun e he => h e (List.mem_cons_of_mem _ he)
    have h1 := dueN_iff hs (h e List.mem_cons_self) hk
    unfold getK mapK at ih ⊢
    rw [List.map_cons, List.find?_cons, List.find?_cons, h1]
    cases decide (e.1 = k) with
    | true => rfl
    | false => exact ih
theorem hasK_mapK (hs : IsSh s) (hk : IsPart k) (h : Parts l) : hasK (mapK s l) (dueN k s) = hasK l k := by
  induction l with
  | nil => rfl
  | cons e l ih =>
    have ih := ih fun e he => h e (List.mem_cons_of_mem _ he)
    unfold hasK mapK at ih ⊢
    rw [List.map_cons, List.any_cons, List.any_cons, ih, dueN_iff hs (h e List.mem_cons_self) hk]
theorem putK_mapK (hs : IsSh s) (hk : IsPart k) (h : Parts l) : putK (mapK s l) (dueN k s) v = mapK s (putK l k v) := by
  unfold putK
  rw [hasK_mapK hs hk h]
  cases hasK l k with
  | true =>
    rw [if_pos rfl, if_pos rfl]
    unfold mapK
    rw [List.map_map, List.map_map]
    refine List.map_congr_left fun e he => ?_
    show (if dueN e.1 s = dueN k s then (dueN e.1 s, v) else (dueN e.1 s, e.2)) = (dueN (if e.1 = k then (e.1, v) else e).1 s, (if e.1 = k then (e.1, v) else e).2)
    by_cases h2 : e.1 = k
    · rw [if_pos h2, if_pos (congrArg (dueN · s) h2)]
    · rw [if_neg h2, if_neg fun h3 => h2 (dueN_dec s hs _ (h e he) _ hk h3)]
  | false => exact (List.map_append (l₂ := [(k, v)])).symm
theorem bump_mapK (hs : IsSh s) (hk : IsPart k) (h : Parts l) : bmp (mapK s l) (dueN k s) v = mapK s (bmp l k v) := by
  unfold bmp
  rw [getK_mapK hs hk h, putK_mapK hs hk h]
theorem bump_parts (hk : IsPart k) (h : Parts l) : Parts (bmp l k v) := by
  intro e he
  unfold bmp putK at he
  cases hh : hasK l k with
  | true =>
    rw [hh, if_pos rfl] at he
    obtain ⟨d, hd, rfl⟩ := List.mem_map.mp he
    by_cases hq : d.1 = k
    · rw [if_pos hq]; exact h d hd
    · rw [if_neg hq]; exact h d hd
  | false =>
    rw [hh] at he
    exact (List.mem_append.mp he).elim (h e) fun q => by rw [List.mem_singleton.mp q]; exact hk
end
noncomputable def dueQ : List (Nat × Nat) → List (Nat × Int) → List (Nat × Int)
  | [], acc => acc
  | e :: ts, acc => dueQ ts (bmp acc (partP e.1) e.2)
theorem dueQ_map {s : Nat} (hs : IsSh s) (ts : List (Nat × Nat)) : ∀ acc : List (Nat × Int), Parts acc → (∀ t ∈ ts, 1 ≤ t.1 ∧ t.1 ≤ 30) → dueGo s ts (mapK s acc) = mapK s (dueQ ts acc) ∧ Parts (dueQ ts acc) := by
  induction ts with
  | nil => exact fun acc h _ => ⟨rfl, h⟩
  | cons t ts ih =>
    intro acc h ht
    have h1 := ht t List.mem_cons_self
    have hp := part_ok h1.1 h1.2
    unfold dueGo dueQ
    rw [bump_mapK hs hp h]
    exact ih _ (bump_parts hp h) fun t h => ht t (List.mem_cons_of_mem _ h)
noncomputable def toldQ (es : List (Int × Int)) : List (Int × Int) → List (Nat × Int) → List (Nat × Int)
  | [], acc => acc
  | e :: r, acc => toldQ es r (if (getK es e.1).getD 0 = 0 then acc else bmp acc (partP e.1.toNat) ((getK es e.1).getD 0))
theorem toldQ_map {s : Nat} (hs : IsSh s) (es r : List (Int × Int)) : ∀ acc : List (Nat × Int), Parts acc → (∀ e ∈ r, ∃ k : Nat, e.1 = (k : Int) ∧ 1 ≤ k ∧ k ≤ 30) → toldGo s es r (mapK s acc) = mapK s (toldQ es r acc) ∧ Parts (toldQ es r acc) := by
  induction r with
  | nil => exact fun acc h _ => ⟨rfl, h⟩
  | cons e r ih =>
    intro acc h ht
    obtain ⟨k, hk, h1, h2⟩ := ht e List.mem_cons_self
    have hp : IsPart (partP e.1.toNat) := by rw [hk]; exact part_ok h1 h2
    have ht := fun t h => ht t (List.mem_cons_of_mem _ h)
    unfold toldGo toldQ toldK
    by_cases h0 : (getK es e.1).getD 0 = 0
    · rw [if_pos h0, if_pos h0]; exact ih _ h ht
    · rw [if_neg h0, if_neg h0, bump_mapK hs hp h]
      exact ih _ (bump_parts hp h) ht
noncomputable def eqQ (a b : List (Nat × Int)) : Bool := decide (a.length = b.length) && a.all fun e => decide (getK b e.1 = some e.2)
theorem eqQ_map {s : Nat} (hs : IsSh s) {a b : List (Nat × Int)} (ha : Parts a) (hb : Parts b) (h : eqQ a b = true) : eqD (mapK s a) (mapK s b) = true := by
  have h := Bool.and_eq_true_iff.mp h
  have hl : ∀ l, (mapK s l).length = l.length := fun l => List.length_map ..
  refine Bool.and_eq_true_iff.mpr ⟨by rw [hl, hl]; exact h.1, List.all_eq_true.mpr fun e he => ?_⟩
  obtain ⟨d, hd, rfl⟩ := List.mem_map.mp he
  dsimp only
  rw [getK_mapK hs (ha d hd) hb]
  exact List.all_eq_true.mp h.2 d hd
theorem told_due {s : Nat} (hs : IsSh s) {es : List (Int × Int)} {ts : List (Nat × Nat)} (he : ∀ e ∈ es, ∃ k : Nat, e.1 = (k : Int) ∧ 1 ≤ k ∧ k ≤ 30) (ht : ∀ t ∈ ts, 1 ≤ t.1 ∧ t.1 ≤ 30) (h : eqQ (toldQ es es []) (dueQ ts []) = true) : eqD (toldGo s es es []) (dueGo s ts []) = true := by
  have h1 := toldQ_map hs es es [] (fun _ h => nomatch h) he
  have h2 := dueQ_map hs ts [] (fun _ h => nomatch h) ht
  have e0 : mapK s [] = [] := rfl
  rw [e0] at h1 h2
  rw [h1.1, h2.1]
  exact eqQ_map hs h1.2 h2.2 h
end
section
set_option backward.match.sparseCases false
open PySem
noncomputable def laidG2 (tx : List (List Nat)) (a : Nat) : List (List Nat) := wrapP (wrapP tx (a % 5)) (a / 5 % 5)
noncomputable def laidG3 (tx : List (List Nat)) (a b : Nat) : List (List Nat) := seamP (laidG2 tx a) (b % 4) (joinP (laidG2 tx a) (b % 4) (1 + b / 4 % 2))
noncomputable def laidG4 (tx : List (List Nat)) (a b c : Nat) : List (List Nat) := seamP (laidG3 tx a b) (c % 3) (joinP (laidG3 tx a b) (c % 3) (1 + c / 3 % 1))
noncomputable def lineG (tx : List (List Nat)) (a b c : Nat) : List Nat := joinS [] (laidG4 tx a b c) ++ [59]
noncomputable def hom (x : List Nat) (y : List Nat) : List Nat := y.flatMap fun c => if c = 1 then x else [c]
section
variable {x y : List Nat} {tx : List (List Nat)} {p m a b c d : Nat}
theorem hom_app {z : List Nat} : hom x (y ++ z) = hom x y ++ hom x z := List.flatMap_append
theorem getD_hom : (tx.map (hom x)).getD p [] = hom x (tx.getD p []) := by
  rw [List.getD_eq_getElem?_getD, List.getD_eq_getElem?_getD, List.getElem?_map]
  cases tx[p]? <;> rfl
theorem wrap_hom : wrapP (tx.map (hom x)) p = (wrapP tx p).map (hom x) := by
  unfold wrapP
  rw [getD_hom, List.map_set, hom_app, hom_app]; rfl
theorem rep_hom (hc : hom x [c] = [c]) : hom x (List.replicate m [c]).flatten = (List.replicate m [c]).flatten := by
  induction m with
  | zero => rfl
  | succ m ih => rw [List.replicate_succ, List.flatten_cons, hom_app, ih, hc]
theorem join_hom : joinP (tx.map (hom x)) p m = hom x (joinP tx p m) := by
  unfold joinP
  rw [getD_hom, getD_hom, hom_app, hom_app, hom_app, rep_hom (c := 40) rfl, rep_hom (c := 41) rfl]
theorem seam_hom {v : List Nat} : seamP (tx.map (hom x)) p (hom x v) = (seamP tx p v).map (hom x) := seam_map _ _ _ _
theorem mid_hom : seamP (tx.map (hom x)) p (joinP (tx.map (hom x)) p m) = (seamP tx p (joinP tx p m)).map (hom x) := by
  rw [join_hom, seam_hom]
theorem flatten_hom : (tx.map (hom x)).flatten = hom x tx.flatten := by
  induction tx with
  | nil => rfl
  | cons y l ih => rw [List.map_cons, List.flatten_cons, List.flatten_cons, hom_app, ih]
theorem line_hom : lineG (tx.map (hom x)) a b c = hom x (lineG tx a b c) := by
  unfold lineG laidG4 laidG3 laidG2
  rw [wrap_hom, wrap_hom, mid_hom, mid_hom, joinS_nil, joinS_nil, hom_app, flatten_hom]; rfl
noncomputable def txM (k : Nat) : List (List Nat) := tx0.set k (1 :: tx0.getD k [])
noncomputable def fiveL : List Nat := [0, 1, 2, 3, 4]
theorem five_mem {k : Nat} (h : k < 5) : k ∈ fiveL := by
  match k, h with
  | 0, _ => decide
  | 1, _ => decide
  | 2, _ => decide
  | 3, _ => decide
  | 4, _ => decide
theorem tx_dress : dressedP d = (txM (d % 5)).map (hom (dressP (d / 5 % 4))) := by
  unfold dressedP
  generalize dressP (d / 5 % 4) = x
  exact by_map (f := fun k => tx0.set k (x ++ tx0.getD k [])) (g := fun k => (txM k).map (hom x)) (l := fiveL) (by
    kernel_rfl) (five_mem (Nat.mod_lt _ (by decide)))
theorem line_dress : lineP a b c d = hom (dressP (d / 5 % 4)) (lineG (txM (d % 5)) a b c) := by
  rw [← line_hom, ← tx_dress]; rfl
end
noncomputable def Calm (l : List Nat) : Prop := ∀ c ∈ l, c ≠ 34 ∧ c ≠ 92
section
variable {x : List Nat} {i st p : Nat} {acc : List (List Nat)} {r l m pre post u : List Nat} {op : Option Nat}
theorem str_calm (r : List Nat) : ∀ {i : Nat}, Calm l → strGo x i false st op acc (l ++ r) = strGo x (i + l.length) false st op acc r := by
  induction l with
  | nil => exact fun _ => rfl
  | cons c l ih =>
    intro i h
    have h1 := h c List.mem_cons_self
    refine Eq.trans ?_ ((ih fun c hc => h c (List.mem_cons_of_mem _ hc)).trans (congrArg (strGo x · false st op acc r) (Nat.succ_add i l.length)))
    exact (if_neg h1.2).trans (if_neg h1.1)
noncomputable def Mid (m : List Nat) : Prop := ∀ (x : List Nat) (i st p : Nat) (acc : List (List Nat)) (r : List Nat), strGo x i false st (some p) acc (m ++ 34 :: r) = strGo x (i + m.length) false st (some p) acc (34 :: r)
theorem mid1 : Mid [40] := fun x i st p acc r => rfl
theorem mid2 : Mid [41, 40] := fun x i st p acc r => rfl
theorem mid3 : Mid [92, 34, 41] := fun x i st p acc r => rfl
theorem cutAll {l : List Nat} : cut (pre ++ l) pre.length (pre ++ l).length = l := by
  unfold cut
  rw [List.take_length, List.drop_left]
theorem strip_mid (hm : Mid m) (h1 : Calm pre) (h2 : Calm post) (hp : post ≠ []) : stripP (pre ++ (34 :: (m ++ 34 :: post))) = pre ++ post := by
  have hc : (pre ++ (34 :: (m ++ 34 :: post))).contains 34 = true := List.contains_iff_mem.mpr (List.mem_append_right _ List.mem_cons_self)
  generalize hx : pre ++ (34 :: (m ++ 34 :: post)) = x at hc
  have e0 : strGo x 0 false 0 none [] (pre ++ (34 :: (m ++ 34 :: post))) = (0 + pre.length + 1 + m.length + 1, if 0 = 0 + pre.length then [] else [] ++ [cut x 0 (0 + pre.length)]) := by
    refine (str_calm _ h1).trans ((hm x (0 + pre.length + 1) 0 (0 + pre.length) [] post).trans ?_)
    exact ((congrArg (strGo x _ false _ none _) (List.append_nil post).symm).trans (str_calm (l := post) [] h2)).trans rfl
  rw [hx] at e0
  have hx2 : (pre ++ (34 :: (m ++ [34]))) ++ post = x := by rw [← hx, List.append_assoc]; exact congrArg (fun z => pre ++ 34 :: z) (List.append_assoc m [34] post)
  have hl2 : (pre ++ (34 :: (m ++ [34]))).length = 0 + pre.length + 1 + m.length + 1 := by rw [List.length_append, List.length_cons, List.length_append, Nat.zero_add, Nat.add_right_comm _ 1 m.length]; rfl
  have e2 : cut x (0 + pre.length + 1 + m.length + 1) x.length = post := by rw [← hl2, ← hx2]; exact cutAll
  have hl : 0 + pre.length + 1 + m.length + 1 < x.length := by
    rw [← hl2, ← hx2, List.length_append (bs := post)]; exact Nat.lt_add_of_pos_right (List.length_pos_iff.mpr hp)
  have e1 : cut x 0 (0 + pre.length) = pre := by rw [Nat.zero_add, ← hx]; unfold cut; rw [List.take_left]; rfl
  unfold stripP
  rw [if_pos hc, e0]
  dsimp only
  rw [if_pos hl, joinS_nil, e2, e1]
  cases pre with
  | nil => exact List.append_nil post
  | cons c pre => rw [if_neg (by rw [Nat.zero_add]; exact Nat.ne_of_lt (Nat.succ_pos _))]; exact congrArg (c :: pre ++ ·) (List.append_nil post)
theorem strip_none (h : 34 ∉ x) : stripP x = x := if_neg fun q => h (List.contains_iff_mem.mp q)
noncomputable def One (u : List Nat) : Prop := ∃ pre post : List Nat, u = pre ++ 1 :: post ∧ (∀ c ∈ pre, Calm [c] ∧ c ≠ 1) ∧ (∀ c ∈ post, Calm [c] ∧ c ≠ 1) ∧ post ≠ []
theorem hom_calm (h : ∀ c ∈ l, Calm [c] ∧ c ≠ 1) : hom x l = l := by
  induction l with
  | nil => rfl
  | cons c l ih =>
    show (if c = 1 then x else [c]) ++ hom x l = _
    rw [if_neg (h c List.mem_cons_self).2, ih fun c hc => h c (List.mem_cons_of_mem _ hc)]; rfl
noncomputable def leftP (k : Nat) : List Nat := if k = 1 then [92] else []
theorem hom_one (h1 : ∀ c ∈ pre, Calm [c] ∧ c ≠ 1) (h2 : ∀ c ∈ post, Calm [c] ∧ c ≠ 1) : hom x (pre ++ 1 :: post) = pre ++ (x ++ post) := by
  rw [hom_app, hom_calm h1]
  exact congrArg (fun z => pre ++ (x ++ z)) (hom_calm h2)
theorem strip_one (h : One u) {k : Nat} (hk : k < 4) : stripP (hom (dressP k) u) = hom (leftP k) u := by
  obtain ⟨pre, post, rfl, h1, h2, hp⟩ := h
  rw [hom_one h1 h2, hom_one h1 h2]
  have c1 : Calm pre := fun c hc => (h1 c hc).1 c List.mem_cons_self
  have c2 : Calm post := fun c hc => (h2 c hc).1 c List.mem_cons_self
  match k, hk with
  | 0, _ => exact strip_mid mid1 c1 c2 hp
  | 1, _ => exact strip_none fun hm => (List.mem_append.mp hm).elim (fun q => (c1 _ q).1 rfl) fun q => (List.mem_cons.mp q).elim (fun q => absurd q (by decide)) fun q => (c2 _ q).1 rfl
  | 2, _ => exact strip_mid mid2 c1 c2 hp
  | 3, _ => exact strip_mid mid3 c1 c2 hp
end
noncomputable def calmB (c : Nat) : Bool := c != 34 && c != 92 && c != 1
noncomputable def oneB : List Nat → Bool
  | [] => false
  | c :: u => if c = 1 then u.all calmB && !u.isEmpty else calmB c && oneB u
theorem calm_of {c : Nat} (h : calmB c = true) : Calm [c] ∧ c ≠ 1 := by
  have h := Bool.and_eq_true_iff.mp h
  have h1 := Bool.and_eq_true_iff.mp h.1
  exact ⟨fun d hd => List.mem_singleton.mp hd ▸ ⟨bne_iff_ne.mp h1.1, bne_iff_ne.mp h1.2⟩, bne_iff_ne.mp h.2⟩
theorem one_of {u : List Nat} (h : oneB u = true) : One u := by
  induction u with
  | nil => cases h
  | cons c u ih =>
    by_cases hc : c = 1
    · have h := Bool.and_eq_true_iff.mp ((if_pos hc).symm.trans h)
      exact ⟨[], u, congrArg (· :: u) hc, fun c hc => absurd hc List.not_mem_nil, fun c hc => calm_of (List.all_eq_true.mp h.1 c hc), fun q => by subst q; exact Bool.noConfusion h.2⟩
    · have h := Bool.and_eq_true_iff.mp ((if_neg hc).symm.trans h)
      obtain ⟨pre, post, e, h1, h2, h3⟩ := ih h.2
      exact ⟨c :: pre, post, congrArg (c :: ·) e, fun d hd => (List.mem_cons.mp hd).elim (fun q => q ▸ calm_of h.1) (h1 d), h2, h3⟩
end
section
set_option backward.match.sparseCases false
open PySem
noncomputable def spotN (sp : List (Int × Int)) (k : Nat) : Nat := ((getK sp (k : Int)).getD 0).toNat
noncomputable def lookP (sp : List (Int × Int)) (prs : List (Nat × Nat)) : Option (List (List Nat)) := if (prs.length == 4 || prs.length == 5) && fiveL.all (fun k => decide (getK sp (k : Int) = some ((spotN sp k : Nat) : Int))) then some (fiveL.map fun k => wordP (spotN sp k) prs) else none
noncomputable def lookL (left : List Nat) : Option (List (List Nat)) := if left.length ≤ 200 then (readGo 100 left [] []).bind fun r => if r.1.length ≤ 200 then (pairsP left r.1.dropLast).bind (lookP r.2) else none else none
noncomputable def hamP : List Nat → List Nat → Nat
  | a :: x, b :: y => (if a = b then 0 else 1) + hamP x y
  | _, _ => 0
noncomputable def prsL : List (Nat × Nat) := [(1, 0), (2, 0), (2, 1), (3, 0), (3, 1), (3, 2), (4, 0), (4, 1), (4, 2), (4, 3)]
noncomputable def distP (i j : Nat) : List (Nat × Nat) → Nat
  | [] => 0
  | e :: ts => (if e.1 / 2 ^ i % 2 = e.1 / 2 ^ j % 2 then 0 else e.2) + distP i j ts
noncomputable def distL (ts : List (Nat × Nat)) : List Nat := prsL.map fun p => distP p.1 p.2 ts
noncomputable def distI (ts : List (Nat × Nat)) (k : Nat) : Int := ((distL ts).getD k 0 : Nat)
noncomputable def hamL (W : List (List Nat)) : List Nat := prsL.map fun p => hamP (W.getD p.1 []) (W.getD p.2 [])
noncomputable def chkW (a b c : Nat) (W : List (List Nat)) : Bool := fiveL.all (fun k => oneB (lineG (txM k) a b c) && decide (lookL (hom [92] (lineG (txM k) a b c)) = some W)) && decide (hamL W = distL (tiesP a b c))
noncomputable def chk1 (a b c : Nat) : Bool := ((lookL (lineG tx0 a b c)).map (chkW a b c)).getD false
noncomputable def intT : T → Option Int
  | .int i => some i
  | _ => none
noncomputable def esG : List (Int × T) → Option (List (Int × Int))
  | [] => some []
  | e :: l => (intT e.2).bind fun i => (esG l).map fun r => (e.1, i) :: r
noncomputable def esT : T → Option (List (Int × Int))
  | .dI l => esG l
  | _ => none
noncomputable def keysB (es : List (Int × Int)) : Bool := es.all fun e => decide (1 ≤ e.1) && decide (e.1 ≤ 30)
noncomputable def chkE (a a' b c : Nat) (es : List (Int × Int)) : Bool := keysB es && decide (es.length ≤ 100) && eqQ (toldQ es es []) (dueQ (tiesP a b c) []) && eqQ (toldQ es es []) (dueQ (tiesP a' b c) [])
noncomputable def jnR (ts : List (Nat × Nat)) : Option (T × Nat) := runF 14 (b_jn pfG) [tblT (distI ts)]
noncomputable def chkR (a a' b c : Nat) (r : T × Nat) : Bool := r.2 == 0 && ((esT r.1).map (chkE a a' b c)).getD false
noncomputable def chk2 (a a' b c : Nat) : Bool := decide (distL (tiesP a b c) = distL (tiesP a' b c)) && ((jnR (tiesP a b c)).map (chkR a a' b c)).getD false
noncomputable def chkAll (a a' : Nat) : Bool := [0, 1, 2, 3, 4, 5, 6, 7].all fun b => [0, 1, 2].all fun c => chk1 a b c && chk2 a a' b c
end
section
set_option backward.match.sparseCases false
open PySem
noncomputable def jnD (D : List Nat) : Option (T × Nat) := runF 14 (b_jn pfG) [tblT fun k => ((D.getD k 0 : Nat) : Int)]
noncomputable def decD (n : Nat) : List Nat := (List.range 10).map fun i => n / 10 ^ i % 10
noncomputable def decE (n : Nat) : List (Int × Int) := (List.range 7).map fun i => (((n / 128 ^ i % 128 / 4 : Nat) : Int), ((n / 128 ^ i % 4 : Nat) : Int))
noncomputable def encD : List Nat → Nat
  | [] => 0
  | d :: l => d + 10 * encD l
noncomputable def JdOk (q : Nat × Nat) : Prop := jnD (decD q.1) = some (.dI (tD (decE q.2)), 0)
theorem jd_of {l : List (Nat × Nat)} (h : l.map (fun q => jnD (decD q.1)) = l.map fun q => some (.dI (tD (decE q.2)), 0)) : ∀ q ∈ l, JdOk q := fun q hq => by_map h hq
theorem app_all {α : Type} {p : α → Prop} {a b : List α} (h : ∀ q ∈ a, p q) (t : ∀ q ∈ b, p q) : ∀ q ∈ a ++ b, p q := fun q hq => (List.mem_append.mp hq).elim (h q) (t q)
noncomputable def jd0 : List (Nat × Nat) := [(2344122110, 129819715257348), (2233233110, 129785623954436), (2455233110, 60546170822944), (2122344110, 129751532651524), (2344344110, 60546170822817)]
theorem jdk0 : ∀ q ∈ jd0, JdOk q := jd_of (by kernel_rfl)
noncomputable def jd1 : List (Nat × Nat) := [(2233455110, 60546170822690), (3333022220, 339753526576132), (1333222220, 129785357616132), (3222133220, 339787884217348), (2355133220, 129819715273732)]
theorem jdk1 : ∀ q ∈ jd1, JdOk q := jd_of (by kernel_rfl)
noncomputable def jd2 : List (Nat × Nat) := [(1222333220, 129751266313220), (1444333220, 60546439258272), (3111244220, 339822241858564), (2244244220, 129785623970820), (1333444220, 60546439258145)]
theorem jdk2 : ∀ q ∈ jd2, JdOk q := jd_of (by kernel_rfl)
noncomputable def jd3 : List (Nat × Nat) := [(2133355220, 129751532667908), (2322122330, 339753792914436), (322322330, 129750999974916), (4433033330, 58910325149712), (3344033330, 339753526592516)]
theorem jdk3 : ∀ q ∈ jd3, JdOk q := jd_of (by kernel_rfl)
noncomputable def jd4 : List (Nat × Nat) := [(2211233330, 339788150555652), (1344233330, 129785357632516), (433433330, 60546707693600), (4322144330, 58910056714384), (3233144330, 339787884233732)]
theorem jdk4 : ∀ q ∈ jd4, JdOk q := jd_of (by kernel_rfl)
noncomputable def jd5 : List (Nat × Nat) := [(1233344330, 129751266329604), (4211255330, 58909788279056), (3122255330, 339822241874948), (1311222440, 339754059252740), (3422133440, 58910056714257)]
theorem jdk5 : ∀ q ∈ jd5, JdOk q := jd_of (by kernel_rfl)
noncomputable def jd6 : List (Nat × Nat) := [(2333133440, 339753792930820), (333333440, 129750999991300), (3311244440, 58909788278929), (2222244440, 339788150572036), (2411233550, 58909788278802)]
theorem jdk6 : ∀ q ∈ jd6, JdOk q := jd_of (by kernel_rfl)
noncomputable def jd7 : List (Nat × Nat) := [(1322233550, 339754059269124), (2443221011, 129819733985288), (2332332011, 129785642682376), (2554332011, 444754806513952), (2221443011, 129751551379464)]
theorem jdk7 : ∀ q ∈ jd7, JdOk q := jd_of (by kernel_rfl)
noncomputable def jd8 : List (Nat × Nat) := [(2443443011, 444754806513825), (2332554011, 444754806513698), (1243132211, 129785355519108), (1132243211, 129751264216196), (1354243211, 60546172919968)]
theorem jdk8 : ∀ q ∈ jd8, JdOk q := jd_of (by kernel_rfl)
noncomputable def jd9 : List (Nat × Nat) := [(1243354211, 60546172919841), (1432321121, 129785374247048), (4432012121, 339753532793092), (1321432121, 129751282944136), (1543432121, 444789166252192)]
theorem jdk9 : ∀ q ∈ jd9, JdOk q := jd_of (by kernel_rfl)
noncomputable def jd10 : List (Nat × Nat) := [(4321123121, 339787892531332), (1234123121, 129785355518981), (1432543121, 444789166252065), (4210234121, 339822252269572), (1123234121, 129751264216069)]
theorem jdk10 : ∀ q ∈ jd10, JdOk q := jd_of (by kernel_rfl)
noncomputable def jd11 : List (Nat × Nat) := [(1345234121, 60546170839200), (1234345121, 60546170839073), (2232032321, 339753524479108), (232232321, 129750997877892), (2121143321, 339787882120324)]
theorem jdk11 : ∀ q ∈ jd11, JdOk q := jd_of (by kernel_rfl)
noncomputable def jd12 : List (Nat × Nat) := [(1254143321, 129785355535492), (343343321, 60546441355296), (1143254321, 129751264232580), (421421231, 129751014508808), (3421112231, 339753801228420)]
theorem jdk12 : ∀ q ∈ jd12, JdOk q := jd_of (by kernel_rfl)
noncomputable def jd13 : List (Nat × Nat) := [(532532231, 444823525990432), (5532023231, 305185482149904), (2223023231, 339753524478981), (3310223231, 339788160966660), (223223231, 129750997877765)]
theorem jdk13 : ∀ q ∈ jd13, JdOk q := jd_of (by kernel_rfl)
noncomputable def jd14 : List (Nat × Nat) := [(5421134231, 305185480052880), (2112134231, 339787882120197), (1245134231, 129785355535365), (334334231, 60546439274528), (5310245231, 305185477955856)]
theorem jdk14 : ∀ q ∈ jd14, JdOk q := jd_of (by kernel_rfl)
noncomputable def jd15 : List (Nat × Nat) := [(1134245231, 129751264232453), (1221132431, 339753790817412), (3332043431, 58910058811408), (2243043431, 339753524495492), (243243431, 129750997894276)]
theorem jdk15 : ∀ q ∈ jd15, JdOk q := jd_of (by kernel_rfl)
noncomputable def jd16 : List (Nat × Nat) := [(3221154431, 58909790376080), (2132154431, 339787882136708), (2410212341, 339754069663748), (4521123341, 305185480052753), (1212123341, 339753790817285)]
theorem jdk16 : ∀ q ∈ jd16, JdOk q := jd_of (by kernel_rfl)
noncomputable def jd17 : List (Nat × Nat) := [(3323034341, 58910056730640), (2234034341, 339753524495365), (4410234341, 305185477955729), (234234341, 129750997894149), (3212145341, 58909788295312)]
theorem jdk17 : ∀ q ∈ jd17, JdOk q := jd_of (by kernel_rfl)
noncomputable def jd18 : List (Nat × Nat) := [(2123145341, 339787882136581), (2321143541, 58909790375953), (1232143541, 339753790833796), (3510223451, 305185477955602), (2312134451, 58909788295185)]
theorem jdk18 : ∀ q ∈ jd18, JdOk q := jd_of (by kernel_rfl)
noncomputable def jd19 : List (Nat × Nat) := [(1223134451, 339753790833669), (1342231112, 129785374246921), (1231342112, 129751282944009), (1453342112, 444755074949280), (1342453112, 444755074949153)]
theorem jdk19 : ∀ q ∈ jd19, JdOk q := jd_of (by kernel_rfl)
noncomputable def jd20 : List (Nat × Nat) := [(142142312, 129750995780868), (253253312, 60546175016992), (3442111022, 112330608353540), (2553331022, 129819736082440), (3331222022, 112330876788868)]
theorem jdk20 : ∀ q ∈ jd20, JdOk q := jd_of (by kernel_rfl)
noncomputable def jd21 : List (Nat × Nat) := [(1333222022, 129785374263304), (2442442022, 129785644779528), (3220333022, 112331145224196), (1222333022, 129751282960392), (1444333022, 444754806530208)]
theorem jdk21 : ∀ q ∈ jd21, JdOk q := jd_of (by kernel_rfl)
noncomputable def jd22 : List (Nat × Nat) := [(2331553022, 129751553476616), (1333444022, 444754806530081), (331331222, 129751014508681), (3331022222, 339753532809348), (442442222, 444789434687520)]
theorem jdk22 : ∀ q ∈ jd22, JdOk q := jd_of (by kernel_rfl)
noncomputable def jd23 : List (Nat × Nat) := [(3220133222, 339787892547588), (133133222, 129750995780741), (244244222, 60546172936224), (1131042422, 339753522382084), (153153422, 129750995797252)]
theorem jdk23 : ∀ q ∈ jd23, JdOk q := jd_of (by kernel_rfl)
noncomputable def jd24 : List (Nat × Nat) := [(2431211132, 112330610450564), (1542431132, 129785376344200), (2320322132, 112330878885892), (322322132, 129751014525064), (1431542132, 129751285041288)]
theorem jdk24 : ∀ q ∈ jd24, JdOk q := jd_of (by kernel_rfl)
noncomputable def jd25 : List (Nat × Nat) := [(3322013132, 339753532792965), (433433132, 444789166268448), (3211124132, 339787892531205), (124124132, 129750995780614), (235235132, 60546170855456)]
theorem jdk25 : ∀ q ∈ jd25, JdOk q := jd_of (by kernel_rfl)
noncomputable def jd26 : List (Nat × Nat) := [(2320122332, 339753801244676), (4431033332, 305185748488208), (1122033332, 339753522381957), (4320144332, 305185746391184), (144144332, 129750995797125)]
theorem jdk26 : ∀ q ∈ jd26, JdOk q := jd_of (by kernel_rfl)
noncomputable def jd27 : List (Nat × Nat) := [(2231053532, 58909792473104), (1142053532, 339753522398468), (1420311242, 112330612547588), (531531242, 129751016605960), (2311113242, 339753801228293)]
theorem jdk27 : ∀ q ∈ jd27, JdOk q := jd_of (by kernel_rfl)
noncomputable def jd28 : List (Nat × Nat) := [(4422024242, 305185480069136), (1113024242, 339753522381830), (4311135242, 305185477972112), (135135242, 129750995796998), (3420133442, 305185746391057)]
theorem jdk28 : ∀ q ∈ jd28, JdOk q := jd_of (by kernel_rfl)
noncomputable def jd29 : List (Nat × Nat) := [(2222044442, 58909790392336), (1133044442, 339753522398341), (3411124352, 305185477971985), (2213035352, 58909788311568), (1124035352, 339753522398214)]
theorem jdk29 : ∀ q ∈ jd29, JdOk q := jd_of (by kernel_rfl)
noncomputable def jd30 : List (Nat × Nat) := [(241241213, 129751014508554), (352352213, 444755343384608), (2341121123, 112330608369796), (1452341123, 129785376344073), (2230232123, 112330876805124)]
theorem jdk30 : ∀ q ∈ jd30, JdOk q := jd_of (by kernel_rfl)
noncomputable def jd31 : List (Nat × Nat) := [(232232123, 129751014524937), (1341452123, 129751285041161), (343343123, 444755074965536), (2230032323, 339753532825604), (3552221033, 304367290877960)]
theorem jdk31 : ∀ q ∈ jd31, JdOk q := jd_of (by kernel_rfl)
noncomputable def jd32 : List (Nat × Nat) := [(2332112033, 112330608353413), (3441332033, 304367557216264), (1443332033, 129785376360456), (2221223033, 112330876788741), (223223033, 129751014541320)]
theorem jdk32 : ∀ q ∈ jd32, JdOk q := jd_of (by kernel_rfl)
noncomputable def jd33 : List (Nat × Nat) := [(3330443033, 304367823554568), (1332443033, 129751285057544), (334334033, 444754806546464), (1330221233, 112330610466820), (441441233, 129751016605833)]
theorem jdk33 : ∀ q ∈ jd33, JdOk q := jd_of (by kernel_rfl)
noncomputable def jd34 : List (Nat × Nat) := [(2221023233, 339753532809221), (3330043433, 305186014826512), (2541321143, 304367288780936), (1321212143, 112330610450437), (2430432143, 304367555119240)]
theorem jdk34 : ∀ q ∈ jd34, JdOk q := jd_of (by kernel_rfl)
noncomputable def jd35 : List (Nat × Nat) := [(432432143, 129751016622216), (2212014143, 339753532792838), (3321034343, 305185746407440), (1530421253, 304367286683912), (3312025253, 305185477988368)]
theorem jdk35 : ∀ q ∈ jd35, JdOk q := jd_of (by kernel_rfl)
noncomputable def jd36 : List (Nat × Nat) := [(1240131224, 112330608386052), (351351224, 129751016605706), (2451231134, 304367288780809), (1231122134, 112330608369669), (2340342134, 304367555119113)]
theorem jdk36 : ∀ q ∈ jd36, JdOk q := jd_of (by kernel_rfl)
noncomputable def jd37 : List (Nat × Nat) := [(342342134, 129751016622089), (2442222044, 304367288797192), (1222113044, 112330608353286), (2331333044, 304367555135496), (333333044, 129751016638472)]
theorem jdk37 : ∀ q ∈ jd37, JdOk q := jd_of (by kernel_rfl)
noncomputable def jd38 : List (Nat × Nat) := [(1440331244, 304367286683785), (1431322154, 304367286700168), (1350241235, 304367286683658), (1341232145, 304367286700041), (1332223055, 304367286716424)]
theorem jdk38 : ∀ q ∈ jd38, JdOk q := jd_of (by kernel_rfl)
noncomputable def jdL : List (Nat × Nat) := jd0 ++ (jd1 ++ (jd2 ++ (jd3 ++ (jd4 ++ (jd5 ++ (jd6 ++ (jd7 ++ (jd8 ++ (jd9 ++ (jd10 ++ (jd11 ++ (jd12 ++ (jd13 ++ (jd14 ++ (jd15 ++ (jd16 ++ (jd17 ++ (jd18 ++ (jd19 ++ (jd20 ++ (jd21 ++ (jd22 ++ (jd23 ++ (jd24 ++ (jd25 ++ (jd26 ++ (jd27 ++ (jd28 ++ (jd29 ++ (jd30 ++ (jd31 ++ (jd32 ++ (jd33 ++ (jd34 ++ (jd35 ++ (jd36 ++ (jd37 ++ (jd38 ++ ([])))))))))))))))))))))))))))))))))))))))
theorem jd_all : ∀ q ∈ jdL, JdOk q := app_all jdk0 (app_all jdk1 (app_all jdk2 (app_all jdk3 (app_all jdk4 (app_all jdk5 (app_all jdk6 (app_all jdk7 (app_all jdk8 (app_all jdk9 (app_all jdk10 (app_all jdk11 (app_all jdk12 (app_all jdk13 (app_all jdk14 (app_all jdk15 (app_all jdk16 (app_all jdk17 (app_all jdk18 (app_all jdk19 (app_all jdk20 (app_all jdk21 (app_all jdk22 (app_all jdk23 (app_all jdk24 (app_all jdk25 (app_all jdk26 (app_all jdk27 (app_all jdk28 (app_all jdk29 (app_all jdk30 (app_all jdk31 (app_all jdk32 (app_all jdk33 (app_all jdk34 (app_all jdk35 (app_all jdk36 (app_all jdk37 (app_all jdk38 (fun _ h => absurd h List.not_mem_nil)))))))))))))))))))))))))))))))))))))))
noncomputable def chkD (a a' b c : Nat) (D : List Nat) (q : Nat × Nat) : Bool := decide (decD q.1 = D) && decide (D = distL (tiesP a' b c)) && chkE a a' b c (decE q.2)
noncomputable def chk3 (a a' b c : Nat) : Bool := ((jdL.find? fun q => q.1 == encD (distL (tiesP a b c))).map (chkD a a' b c (distL (tiesP a b c)))).getD false
noncomputable def ckRow (a b : Nat) : Bool := [0, 1, 2].all fun c => chk1 a b c
noncomputable def ckTab (a a' : Nat) : Bool := [0, 1, 2, 3, 4, 5, 6, 7].all fun b => [0, 1, 2].all fun c => chk3 a a' b c
noncomputable def ShpOk (q : Nat × Nat) : Prop := (∀ b ∈ [0, 1, 2, 3, 4, 5, 6, 7], ckRow q.1 b = true) ∧ ckTab q.1 q.2 = true
theorem faP {α : Type} {p : α → Prop} {a : α} {l : List α} (h : p a) (t : ∀ q ∈ l, p q) : ∀ q ∈ a :: l, p q := List.forall_mem_cons.mpr ⟨h, t⟩
theorem cb_0_0 : ckRow 0 0 = true := by kernel_rfl
theorem cb_0_1 : ckRow 0 1 = true := by kernel_rfl
theorem cb_0_2 : ckRow 0 2 = true := by kernel_rfl
theorem cb_0_3 : ckRow 0 3 = true := by kernel_rfl
theorem cb_0_4 : ckRow 0 4 = true := by kernel_rfl
theorem cb_0_5 : ckRow 0 5 = true := by kernel_rfl
theorem cb_0_6 : ckRow 0 6 = true := by kernel_rfl
theorem cb_0_7 : ckRow 0 7 = true := by kernel_rfl
theorem ct_0 : ckTab 0 0 = true := by kernel_rfl
theorem ck_0 : ShpOk (0, 0) := ⟨faP cb_0_0 (faP cb_0_1 (faP cb_0_2 (faP cb_0_3 (faP cb_0_4 (faP cb_0_5 (faP cb_0_6 (faP cb_0_7 (fun _ h => absurd h List.not_mem_nil)))))))), ct_0⟩
theorem cb_5_0 : ckRow 5 0 = true := by kernel_rfl
theorem cb_5_1 : ckRow 5 1 = true := by kernel_rfl
theorem cb_5_2 : ckRow 5 2 = true := by kernel_rfl
theorem cb_5_3 : ckRow 5 3 = true := by kernel_rfl
theorem cb_5_4 : ckRow 5 4 = true := by kernel_rfl
theorem cb_5_5 : ckRow 5 5 = true := by kernel_rfl
theorem cb_5_6 : ckRow 5 6 = true := by kernel_rfl
theorem cb_5_7 : ckRow 5 7 = true := by kernel_rfl
theorem ct_5 : ckTab 5 1 = true := by kernel_rfl
theorem ck_5 : ShpOk (5, 1) := ⟨faP cb_5_0 (faP cb_5_1 (faP cb_5_2 (faP cb_5_3 (faP cb_5_4 (faP cb_5_5 (faP cb_5_6 (faP cb_5_7 (fun _ h => absurd h List.not_mem_nil)))))))), ct_5⟩
theorem cb_10_0 : ckRow 10 0 = true := by kernel_rfl
theorem cb_10_1 : ckRow 10 1 = true := by kernel_rfl
theorem cb_10_2 : ckRow 10 2 = true := by kernel_rfl
theorem cb_10_3 : ckRow 10 3 = true := by kernel_rfl
theorem cb_10_4 : ckRow 10 4 = true := by kernel_rfl
theorem cb_10_5 : ckRow 10 5 = true := by kernel_rfl
theorem cb_10_6 : ckRow 10 6 = true := by kernel_rfl
theorem cb_10_7 : ckRow 10 7 = true := by kernel_rfl
theorem ct_10 : ckTab 10 2 = true := by kernel_rfl
theorem ck_10 : ShpOk (10, 2) := ⟨faP cb_10_0 (faP cb_10_1 (faP cb_10_2 (faP cb_10_3 (faP cb_10_4 (faP cb_10_5 (faP cb_10_6 (faP cb_10_7 (fun _ h => absurd h List.not_mem_nil)))))))), ct_10⟩
theorem cb_15_0 : ckRow 15 0 = true := by kernel_rfl
theorem cb_15_1 : ckRow 15 1 = true := by kernel_rfl
theorem cb_15_2 : ckRow 15 2 = true := by kernel_rfl
theorem cb_15_3 : ckRow 15 3 = true := by kernel_rfl
theorem cb_15_4 : ckRow 15 4 = true := by kernel_rfl
theorem cb_15_5 : ckRow 15 5 = true := by kernel_rfl
theorem cb_15_6 : ckRow 15 6 = true := by kernel_rfl
theorem cb_15_7 : ckRow 15 7 = true := by kernel_rfl
theorem ct_15 : ckTab 15 3 = true := by kernel_rfl
theorem ck_15 : ShpOk (15, 3) := ⟨faP cb_15_0 (faP cb_15_1 (faP cb_15_2 (faP cb_15_3 (faP cb_15_4 (faP cb_15_5 (faP cb_15_6 (faP cb_15_7 (fun _ h => absurd h List.not_mem_nil)))))))), ct_15⟩
theorem cb_20_0 : ckRow 20 0 = true := by kernel_rfl
theorem cb_20_1 : ckRow 20 1 = true := by kernel_rfl
theorem cb_20_2 : ckRow 20 2 = true := by kernel_rfl
theorem cb_20_3 : ckRow 20 3 = true := by kernel_rfl
theorem cb_20_4 : ckRow 20 4 = true := by kernel_rfl
theorem cb_20_5 : ckRow 20 5 = true := by kernel_rfl
theorem cb_20_6 : ckRow 20 6 = true := by kernel_rfl
theorem cb_20_7 : ckRow 20 7 = true := by kernel_rfl
theorem ct_20 : ckTab 20 4 = true := by kernel_rfl
theorem ck_20 : ShpOk (20, 4) := ⟨faP cb_20_0 (faP cb_20_1 (faP cb_20_2 (faP cb_20_3 (faP cb_20_4 (faP cb_20_5 (faP cb_20_6 (faP cb_20_7 (fun _ h => absurd h List.not_mem_nil)))))))), ct_20⟩
theorem cb_6_0 : ckRow 6 0 = true := by kernel_rfl
theorem cb_6_1 : ckRow 6 1 = true := by kernel_rfl
theorem cb_6_2 : ckRow 6 2 = true := by kernel_rfl
theorem cb_6_3 : ckRow 6 3 = true := by kernel_rfl
theorem cb_6_4 : ckRow 6 4 = true := by kernel_rfl
theorem cb_6_5 : ckRow 6 5 = true := by kernel_rfl
theorem cb_6_6 : ckRow 6 6 = true := by kernel_rfl
theorem cb_6_7 : ckRow 6 7 = true := by kernel_rfl
theorem ct_6 : ckTab 6 6 = true := by kernel_rfl
theorem ck_6 : ShpOk (6, 6) := ⟨faP cb_6_0 (faP cb_6_1 (faP cb_6_2 (faP cb_6_3 (faP cb_6_4 (faP cb_6_5 (faP cb_6_6 (faP cb_6_7 (fun _ h => absurd h List.not_mem_nil)))))))), ct_6⟩
theorem cb_11_0 : ckRow 11 0 = true := by kernel_rfl
theorem cb_11_1 : ckRow 11 1 = true := by kernel_rfl
theorem cb_11_2 : ckRow 11 2 = true := by kernel_rfl
theorem cb_11_3 : ckRow 11 3 = true := by kernel_rfl
theorem cb_11_4 : ckRow 11 4 = true := by kernel_rfl
theorem cb_11_5 : ckRow 11 5 = true := by kernel_rfl
theorem cb_11_6 : ckRow 11 6 = true := by kernel_rfl
theorem cb_11_7 : ckRow 11 7 = true := by kernel_rfl
theorem ct_11 : ckTab 11 7 = true := by kernel_rfl
theorem ck_11 : ShpOk (11, 7) := ⟨faP cb_11_0 (faP cb_11_1 (faP cb_11_2 (faP cb_11_3 (faP cb_11_4 (faP cb_11_5 (faP cb_11_6 (faP cb_11_7 (fun _ h => absurd h List.not_mem_nil)))))))), ct_11⟩
theorem cb_16_0 : ckRow 16 0 = true := by kernel_rfl
theorem cb_16_1 : ckRow 16 1 = true := by kernel_rfl
theorem cb_16_2 : ckRow 16 2 = true := by kernel_rfl
theorem cb_16_3 : ckRow 16 3 = true := by kernel_rfl
theorem cb_16_4 : ckRow 16 4 = true := by kernel_rfl
theorem cb_16_5 : ckRow 16 5 = true := by kernel_rfl
theorem cb_16_6 : ckRow 16 6 = true := by kernel_rfl
theorem cb_16_7 : ckRow 16 7 = true := by kernel_rfl
theorem ct_16 : ckTab 16 8 = true := by kernel_rfl
theorem ck_16 : ShpOk (16, 8) := ⟨faP cb_16_0 (faP cb_16_1 (faP cb_16_2 (faP cb_16_3 (faP cb_16_4 (faP cb_16_5 (faP cb_16_6 (faP cb_16_7 (fun _ h => absurd h List.not_mem_nil)))))))), ct_16⟩
theorem cb_21_0 : ckRow 21 0 = true := by kernel_rfl
theorem cb_21_1 : ckRow 21 1 = true := by kernel_rfl
theorem cb_21_2 : ckRow 21 2 = true := by kernel_rfl
theorem cb_21_3 : ckRow 21 3 = true := by kernel_rfl
theorem cb_21_4 : ckRow 21 4 = true := by kernel_rfl
theorem cb_21_5 : ckRow 21 5 = true := by kernel_rfl
theorem cb_21_6 : ckRow 21 6 = true := by kernel_rfl
theorem cb_21_7 : ckRow 21 7 = true := by kernel_rfl
theorem ct_21 : ckTab 21 9 = true := by kernel_rfl
theorem ck_21 : ShpOk (21, 9) := ⟨faP cb_21_0 (faP cb_21_1 (faP cb_21_2 (faP cb_21_3 (faP cb_21_4 (faP cb_21_5 (faP cb_21_6 (faP cb_21_7 (fun _ h => absurd h List.not_mem_nil)))))))), ct_21⟩
theorem cb_12_0 : ckRow 12 0 = true := by kernel_rfl
theorem cb_12_1 : ckRow 12 1 = true := by kernel_rfl
theorem cb_12_2 : ckRow 12 2 = true := by kernel_rfl
theorem cb_12_3 : ckRow 12 3 = true := by kernel_rfl
theorem cb_12_4 : ckRow 12 4 = true := by kernel_rfl
theorem cb_12_5 : ckRow 12 5 = true := by kernel_rfl
theorem cb_12_6 : ckRow 12 6 = true := by kernel_rfl
theorem cb_12_7 : ckRow 12 7 = true := by kernel_rfl
theorem ct_12 : ckTab 12 12 = true := by kernel_rfl
theorem ck_12 : ShpOk (12, 12) := ⟨faP cb_12_0 (faP cb_12_1 (faP cb_12_2 (faP cb_12_3 (faP cb_12_4 (faP cb_12_5 (faP cb_12_6 (faP cb_12_7 (fun _ h => absurd h List.not_mem_nil)))))))), ct_12⟩
theorem cb_17_0 : ckRow 17 0 = true := by kernel_rfl
theorem cb_17_1 : ckRow 17 1 = true := by kernel_rfl
theorem cb_17_2 : ckRow 17 2 = true := by kernel_rfl
theorem cb_17_3 : ckRow 17 3 = true := by kernel_rfl
theorem cb_17_4 : ckRow 17 4 = true := by kernel_rfl
theorem cb_17_5 : ckRow 17 5 = true := by kernel_rfl
theorem cb_17_6 : ckRow 17 6 = true := by kernel_rfl
theorem cb_17_7 : ckRow 17 7 = true := by kernel_rfl
theorem ct_17 : ckTab 17 13 = true := by kernel_rfl
theorem ck_17 : ShpOk (17, 13) := ⟨faP cb_17_0 (faP cb_17_1 (faP cb_17_2 (faP cb_17_3 (faP cb_17_4 (faP cb_17_5 (faP cb_17_6 (faP cb_17_7 (fun _ h => absurd h List.not_mem_nil)))))))), ct_17⟩
theorem cb_22_0 : ckRow 22 0 = true := by kernel_rfl
theorem cb_22_1 : ckRow 22 1 = true := by kernel_rfl
theorem cb_22_2 : ckRow 22 2 = true := by kernel_rfl
theorem cb_22_3 : ckRow 22 3 = true := by kernel_rfl
theorem cb_22_4 : ckRow 22 4 = true := by kernel_rfl
theorem cb_22_5 : ckRow 22 5 = true := by kernel_rfl
theorem cb_22_6 : ckRow 22 6 = true := by kernel_rfl
theorem cb_22_7 : ckRow 22 7 = true := by kernel_rfl
theorem ct_22 : ckTab 22 14 = true := by kernel_rfl
theorem ck_22 : ShpOk (22, 14) := ⟨faP cb_22_0 (faP cb_22_1 (faP cb_22_2 (faP cb_22_3 (faP cb_22_4 (faP cb_22_5 (faP cb_22_6 (faP cb_22_7 (fun _ h => absurd h List.not_mem_nil)))))))), ct_22⟩
theorem cb_18_0 : ckRow 18 0 = true := by kernel_rfl
theorem cb_18_1 : ckRow 18 1 = true := by kernel_rfl
theorem cb_18_2 : ckRow 18 2 = true := by kernel_rfl
theorem cb_18_3 : ckRow 18 3 = true := by kernel_rfl
theorem cb_18_4 : ckRow 18 4 = true := by kernel_rfl
theorem cb_18_5 : ckRow 18 5 = true := by kernel_rfl
theorem cb_18_6 : ckRow 18 6 = true := by kernel_rfl
theorem cb_18_7 : ckRow 18 7 = true := by kernel_rfl
theorem ct_18 : ckTab 18 18 = true := by kernel_rfl
theorem ck_18 : ShpOk (18, 18) := ⟨faP cb_18_0 (faP cb_18_1 (faP cb_18_2 (faP cb_18_3 (faP cb_18_4 (faP cb_18_5 (faP cb_18_6 (faP cb_18_7 (fun _ h => absurd h List.not_mem_nil)))))))), ct_18⟩
theorem cb_23_0 : ckRow 23 0 = true := by kernel_rfl
theorem cb_23_1 : ckRow 23 1 = true := by kernel_rfl
theorem cb_23_2 : ckRow 23 2 = true := by kernel_rfl
theorem cb_23_3 : ckRow 23 3 = true := by kernel_rfl
theorem cb_23_4 : ckRow 23 4 = true := by kernel_rfl
theorem cb_23_5 : ckRow 23 5 = true := by kernel_rfl
theorem cb_23_6 : ckRow 23 6 = true := by kernel_rfl
theorem cb_23_7 : ckRow 23 7 = true := by kernel_rfl
theorem ct_23 : ckTab 23 19 = true := by kernel_rfl
theorem ck_23 : ShpOk (23, 19) := ⟨faP cb_23_0 (faP cb_23_1 (faP cb_23_2 (faP cb_23_3 (faP cb_23_4 (faP cb_23_5 (faP cb_23_6 (faP cb_23_7 (fun _ h => absurd h List.not_mem_nil)))))))), ct_23⟩
theorem cb_24_0 : ckRow 24 0 = true := by kernel_rfl
theorem cb_24_1 : ckRow 24 1 = true := by kernel_rfl
theorem cb_24_2 : ckRow 24 2 = true := by kernel_rfl
theorem cb_24_3 : ckRow 24 3 = true := by kernel_rfl
theorem cb_24_4 : ckRow 24 4 = true := by kernel_rfl
theorem cb_24_5 : ckRow 24 5 = true := by kernel_rfl
theorem cb_24_6 : ckRow 24 6 = true := by kernel_rfl
theorem cb_24_7 : ckRow 24 7 = true := by kernel_rfl
theorem ct_24 : ckTab 24 24 = true := by kernel_rfl
theorem ck_24 : ShpOk (24, 24) := ⟨faP cb_24_0 (faP cb_24_1 (faP cb_24_2 (faP cb_24_3 (faP cb_24_4 (faP cb_24_5 (faP cb_24_6 (faP cb_24_7 (fun _ h => absurd h List.not_mem_nil)))))))), ct_24⟩
end
section
set_option backward.match.sparseCases false
open PySem
noncomputable def bsL : List Bool := [false, true]
theorem bs_mem (b : Bool) : b ∈ bsL := by cases b <;> decide
noncomputable def wdL : Nat → Nat → List (List Nat)
  | _, 0 => [[]]
  | k, n + 1 => (wdL (k + 1) n).flatMap fun r => [(65 + k) :: r, (97 + k) :: r]
theorem lev4 : ∀ x ∈ wdL 0 4, ∀ y ∈ wdL 0 4, levP x y 8 = hamP x y := by decide +kernel
theorem lev5 : ∀ x ∈ wdL 0 5, ∀ y ∈ wdL 0 5, levP x y 10 = hamP x y := by decide +kernel
section
variable {s t k : Nat} {ps : List (Nat × Nat)}
theorem wd_in (n : Nat) : ∀ {k : Nat}, (List.range' k n).map (letP s ps) ∈ wdL k n := by
  induction n with
  | zero => exact fun {k} => List.mem_cons_self
  | succ n ih =>
    intro k
    rw [List.range'_succ, List.map_cons]
    refine List.mem_flatMap.mpr ⟨_, ih, ?_⟩
    unfold letP
    by_cases h : (ps.getD k (0, 0)).1 < s ∧ s ≤ (ps.getD k (0, 0)).2
    · rw [if_pos h]; exact List.mem_cons_self
    · rw [if_neg h]; exact List.mem_cons_of_mem _ List.mem_cons_self
theorem word_in : wordP s ps ∈ wdL 0 ps.length := by
  unfold wordP
  rw [List.range_eq_range']; exact wd_in _
theorem wordP_len : (wordP s ps).length = ps.length := (List.length_map ..).trans List.length_range
theorem lev_ham (s t : Nat) (h : ps.length = 4 ∨ ps.length = 5) : levP (wordP s ps) (wordP t ps) (2 * (wordP s ps).length) = hamP (wordP s ps) (wordP t ps) := by
  rw [wordP_len]
  have h1 := word_in (s := s) (ps := ps)
  have h2 := word_in (s := t) (ps := ps)
  cases h with
  | inl h => rw [h] at h1 h2 ⊢; exact lev4 _ h1 _ h2
  | inr h => rw [h] at h1 h2 ⊢; exact lev5 _ h1 _ h2
theorem word_lt (h : ps.length = 4 ∨ ps.length = 5) : ∀ x ∈ wordP s ps, x < 128 := by
  have h1 := word_in (s := s) (ps := ps)
  cases h with
  | inl h => rw [h] at h1; exact (show ∀ x ∈ wdL 0 4, ∀ c ∈ x, c < 128 by decide) _ h1
  | inr h => rw [h] at h1; exact (show ∀ x ∈ wdL 0 5, ∀ c ∈ x, c < 128 by decide +kernel) _ h1
end
noncomputable def LookOk (left : List Nat) (W : List (List Nat)) (sg : List Nat) (sp : List (Int × Int)) (prs : List (Nat × Nat)) : Prop := left.length ≤ 200 ∧ readGo 100 left [] [] = some (sg, sp) ∧ sg.length ≤ 200 ∧ pairsP left sg.dropLast = some prs ∧ (prs.length = 4 ∨ prs.length = 5) ∧
    (∀ k : Nat, k < 5 → getK sp (k : Int) = some ((spotN sp k : Nat) : Int)) ∧ W = fiveL.map fun k => wordP (spotN sp k) prs
theorem lookL_of {left : List Nat} {W : List (List Nat)} (h : lookL left = some W) : ∃ (sg : List Nat) (sp : List (Int × Int)) (prs : List (Nat × Nat)), LookOk left W sg sp prs := by
  have h1 := ite_c h
  obtain ⟨r, h2, h⟩ := Option.bind_eq_some_iff.mp (ite_v h)
  have h3 := ite_c h
  obtain ⟨prs, h4, h⟩ := Option.bind_eq_some_iff.mp (ite_v h)
  have h5 := Bool.and_eq_true_iff.mp (ite_c h)
  exact ⟨r.1, r.2, prs, h1, h2, h3, h4, (Bool.or_eq_true_iff.mp h5.1).imp beq_iff_eq.mp beq_iff_eq.mp, fun k hk => of_decide_eq_true (List.all_eq_true.mp h5.2 k (five_mem hk)), (Option.some.inj (ite_v h)).symm⟩
theorem setD {α : Type} {l : List α} {p q : Nat} {x d : α} (h : p ≠ q) : (l.set p x).getD q d = l.getD q d := by
  rw [List.getD_eq_getElem?_getD, List.getD_eq_getElem?_getD, List.getElem?_set_ne h]
theorem wrap_swap {tx : List (List Nat)} {p q : Nat} : wrapP (wrapP tx p) q = wrapP (wrapP tx q) p := by
  by_cases h : p = q
  · rw [h]
  · unfold wrapP
    rw [setD h, setD (fun e => h e.symm), List.set_comm _ _ h]
theorem line_at {tx : List (List Nat)} {a a' b b' c c' : Nat} (h1 : laidG2 tx a' = laidG2 tx a) (h3 : b' % 4 = b % 4) (h4 : b' / 4 % 2 = b / 4 % 2) (h5 : c' % 3 = c % 3) : lineG tx a' b' c' = lineG tx a b c := by
  unfold lineG laidG4 laidG3
  rw [h1, h3, h4, h5, Nat.mod_one, Nat.mod_one]
theorem ties_mod {a a' b b' c c' : Nat} (h1 : a' % 5 = a % 5) (h2 : a' / 5 % 5 = a / 5 % 5) (h3 : b' % 4 = b % 4) (h4 : b' / 4 % 2 = b / 4 % 2) (h5 : c' % 3 = c % 3) : tiesP a' b' c' = tiesP a b c := by
  unfold tiesP side3
  rw [h1, h2, h3, h4, h5, Nat.mod_one, Nat.mod_one]
theorem esG_of {l : List (Int × T)} : ∀ {es : List (Int × Int)}, esG l = some es → l = tD es := by
  induction l with
  | nil => intro es h; cases h; rfl
  | cons e l ih =>
    intro es h
    obtain ⟨i, h1, h⟩ := Option.bind_eq_some_iff.mp h
    obtain ⟨r, h2, rfl⟩ := Option.map_eq_some_iff.mp h
    obtain ⟨k, t⟩ := e
    cases t with
    | int j => cases h1; exact congrArg ((k, T.int i) :: ·) (ih h2)
    | _ => cases h1
theorem esT_of {t : T} {es : List (Int × Int)} (h : esT t = some es) : t = .dI (tD es) := by
  cases t with
  | dI l => exact congrArg T.dI (esG_of h)
  | _ => cases h
theorem hom_len {x u : List Nat} (h : One u) : (hom x u).length + 1 = u.length + x.length := by
  obtain ⟨pre, post, rfl, h1, h2, hp⟩ := h
  rw [hom_one h1 h2, List.length_append, List.length_append, List.length_append, List.length_cons]
  omega
theorem four_mem {k : Nat} (h : k < 4) : k ∈ ([0, 1, 2, 3] : List Nat) := List.mem_range.mpr h
theorem three_mem {k : Nat} (h : k < 3) : k ∈ ([0, 1, 2] : List Nat) := List.mem_range.mpr h
theorem ties_key : ∀ p ∈ fiveL, ∀ q ∈ fiveL, ∀ r ∈ [0, 1, 2, 3], ∀ s ∈ [0, 1, 2], ∀ t ∈ tiesP (p + 5 * q) r s, 1 ≤ t.1 ∧ t.1 ≤ 30 := by decide +kernel
theorem ties_ok' {a b c p q : Nat} (hp : a % 5 = p % 5) (hq : a / 5 % 5 = q % 5) (r s : Nat) (hr : b % 4 = r % 4) (hs : c % 3 = s % 3) (hk : ∀ t ∈ tiesP (p % 5 + 5 * (q % 5)) r s, 1 ≤ t.1 ∧ t.1 ≤ 30) : ∀ t ∈ tiesP a b c, 1 ≤ t.1 ∧ t.1 ≤ 30 := by
  have e : (tiesP (p % 5 + 5 * (q % 5)) r s).map (·.1) = (tiesP a b c).map (·.1) := by
    unfold tiesP side3
    rw [show (p % 5 + 5 * (q % 5)) % 5 = a % 5 by omega, show (p % 5 + 5 * (q % 5)) / 5 % 5 = a / 5 % 5 by omega, hr, hs]
    rfl
  intro t ht
  obtain ⟨t', ht', h'⟩ := List.mem_map.mp (e ▸ List.mem_map.mpr ⟨t, ht, rfl⟩ : t.1 ∈ (tiesP (p % 5 + 5 * (q % 5)) r s).map (·.1))
  exact h' ▸ hk t' ht'
theorem tiesP_ok (a b c : Nat) : ∀ t ∈ tiesP a b c, 1 ≤ t.1 ∧ t.1 ≤ 30 :=
  ties_ok' (p := a % 5) (q := a / 5 % 5) (Nat.mod_mod ..).symm (Nat.mod_mod ..).symm (b % 4) (c % 3) (Nat.mod_mod ..).symm (Nat.mod_mod ..).symm (by
    rw [Nat.mod_mod, Nat.mod_mod]
    exact ties_key _ (five_mem (Nat.mod_lt _ (by decide))) _ (five_mem (Nat.mod_lt _ (by decide))) _ (four_mem (Nat.mod_lt _ (by decide))) _ (three_mem (Nat.mod_lt _ (by decide))))
end
section
set_option backward.match.sparseCases false
open PySem
theorem eight_mem {k : Nat} (h : k < 8) : k ∈ ([0, 1, 2, 3, 4, 5, 6, 7] : List Nat) := List.mem_range.mpr h
theorem shp_of {a a' : Nat} (h : ShpOk (a, a')) {b c : Nat} (hb : b < 8) (hc : c < 3) : chk1 a b c = true ∧ chk3 a a' b c = true :=
  ⟨List.all_eq_true.mp (h.1 b (eight_mem hb)) c (three_mem hc), List.all_eq_true.mp (List.all_eq_true.mp h.2 b (eight_mem hb)) c (three_mem hc)⟩
theorem getD_t {o : Option Bool} (h : o.getD false = true) : o = some true := by
  cases o with
  | none => cases h
  | some b => exact congrArg some h
noncomputable def Ws (a b c : Nat) (W : List (List Nat)) : Prop := lookL (lineG tx0 a b c) = some W ∧ (∀ k, k < 5 → One (lineG (txM k) a b c) ∧ lookL (hom [92] (lineG (txM k) a b c)) = some W) ∧ hamL W = distL (tiesP a b c)
noncomputable def EsOk (es : List (Int × Int)) : Prop := (∀ e ∈ es, ∃ k : Nat, e.1 = (k : Int) ∧ 1 ≤ k ∧ k ≤ 30) ∧ es.length ≤ 100
structure Shape (a b c : Nat) : Prop where
  words : ∃ W, Ws a b c W
  joined : ∃ es, jnR (tiesP a b c) = some (.dI (tD es), 0) ∧ EsOk es ∧ eqQ (toldQ es es []) (dueQ (tiesP a b c) []) = true
section
variable {a a' b b' c c' : Nat}
theorem chk1_of (h : chk1 a b c = true) : ∃ W, Ws a b c W := by
  obtain ⟨W, hW, h⟩ := Option.map_eq_some_iff.mp (getD_t h)
  have h := Bool.and_eq_true_iff.mp h
  refine ⟨W, hW, fun k hk => ?_, of_decide_eq_true h.2⟩
  have h := Bool.and_eq_true_iff.mp (List.all_eq_true.mp h.1 k (five_mem hk))
  exact ⟨one_of h.1, of_decide_eq_true h.2⟩
theorem keys_of {es : List (Int × Int)} (h : keysB es = true) : ∀ e ∈ es, ∃ k : Nat, e.1 = (k : Int) ∧ 1 ≤ k ∧ k ≤ 30 := fun e he => by
  have h := Bool.and_eq_true_iff.mp (List.all_eq_true.mp h e he)
  have h1 := of_decide_eq_true h.1
  have h2 := of_decide_eq_true h.2
  exact ⟨e.1.toNat, by omega, by omega, by omega⟩
theorem chk3_of (h : chk3 a a' b c = true) : distL (tiesP a b c) = distL (tiesP a' b c) ∧ ∃ es, jnR (tiesP a b c) = some (.dI (tD es), 0) ∧ EsOk es ∧ eqQ (toldQ es es []) (dueQ (tiesP a b c) []) = true ∧ eqQ (toldQ es es []) (dueQ (tiesP a' b c) []) = true := by
  obtain ⟨q, hq, h2⟩ := Option.map_eq_some_iff.mp (getD_t h)
  have hj : JdOk q := jd_all q (List.mem_of_find?_eq_some hq)
  have h2 := Bool.and_eq_true_iff.mp h2
  have h0 := Bool.and_eq_true_iff.mp h2.1
  have e1 := of_decide_eq_true h0.1
  have h3 := Bool.and_eq_true_iff.mp h2.2
  have h4 := Bool.and_eq_true_iff.mp h3.1
  have h5 := Bool.and_eq_true_iff.mp h4.1
  have hr : jnR (tiesP a b c) = jnD (decD q.1) := by rw [e1]; rfl
  exact ⟨of_decide_eq_true h0.2, decE q.2, hr.trans hj, ⟨keys_of h5.1, of_decide_eq_true h5.2⟩, h4.2, h3.2⟩
theorem jnR_d {ts ts' : List (Nat × Nat)} (h : distL ts = distL ts') : jnR ts = jnR ts' := by
  unfold jnR
  rw [show distI ts = distI ts' by unfold distI; rw [h]]
theorem ws_at {W : List (List Nat)} (l : ∀ tx, lineG tx a' b' c' = lineG tx a b c) (t : distL (tiesP a b c) = distL (tiesP a' b' c')) (h : Ws a b c W) : Ws a' b' c' W := by
  unfold Ws
  rw [l, ← t]
  exact ⟨h.1, fun k hk => by rw [l]; exact h.2.1 k hk, h.2.2⟩
theorem shape_fst (h1 : chk1 a b c = true) (h2 : chk3 a a' b c = true) : Shape a b c := by
  obtain ⟨_, es, p, q, r, _⟩ := chk3_of h2
  exact ⟨chk1_of h1, es, p, q, r⟩
theorem shape_snd (h1 : chk1 a b c = true) (h2 : chk3 a a' b c = true) (e1 : a' % 5 = a / 5 % 5) (e2 : a' / 5 % 5 = a % 5) : Shape a' b c := by
  obtain ⟨W, h⟩ := chk1_of h1
  obtain ⟨e, es, p, q, _, s⟩ := chk3_of h2
  exact ⟨⟨W, ws_at (fun tx => line_at (by unfold laidG2; rw [e1, e2, wrap_swap]) rfl rfl rfl) e h⟩, es, (jnR_d e).symm.trans p, q, s⟩
theorem shape_mod (h1 : a' % 5 = a % 5) (h2 : a' / 5 % 5 = a / 5 % 5) (h3 : b' % 4 = b % 4) (h4 : b' / 4 % 2 = b / 4 % 2) (h5 : c' % 3 = c % 3) (h : Shape a' b' c') : Shape a b c := by
  have t : tiesP a' b' c' = tiesP a b c := ties_mod h1 h2 h3 h4 h5
  obtain ⟨⟨W, x⟩, y⟩ := h
  exact ⟨⟨W, ws_at (fun tx => (line_at (by unfold laidG2; rw [h1, h2]) h3 h4 h5).symm) (by rw [t]) x⟩, t ▸ y⟩
noncomputable def ckL : List (Nat × Nat) := [(0, 0), (5, 1), (10, 2), (15, 3), (20, 4), (6, 6), (11, 7), (16, 8), (21, 9), (12, 12), (17, 13), (22, 14), (18, 18), (23, 19), (24, 24)]
theorem ck_all : ∀ q ∈ ckL, ShpOk q := faP ck_0 (faP ck_5 (faP ck_10 (faP ck_15 (faP ck_20 (faP ck_6 (faP ck_11 (faP ck_16 (faP ck_21 (faP ck_12 (faP ck_17 (faP ck_22 (faP ck_18 (faP ck_23 (faP ck_24 (fun _ h => absurd h List.not_mem_nil)))))))))))))))
noncomputable def ckB (p q : Nat) : Bool := ckL.any fun r => (r.1 % 5 == p && r.1 / 5 % 5 == q) || (r.2 % 5 == p && r.2 / 5 % 5 == q && r.2 % 5 == r.1 / 5 % 5 && r.2 / 5 % 5 == r.1 % 5)
theorem ckB_all : ∀ p ∈ fiveL, ∀ q ∈ fiveL, ckB p q = true := by decide +kernel
theorem shape_all (a b c : Nat) : Shape a b c := by
  obtain ⟨⟨A, A'⟩, h1, h2⟩ := List.any_eq_true.mp (ckB_all _ (five_mem (Nat.mod_lt a (by decide))) _ (five_mem (Nat.mod_lt (a / 5) (by decide))))
  obtain ⟨k1, k2⟩ := shp_of (ck_all _ h1) (Nat.mod_lt b (by decide : 0 < 8)) (Nat.mod_lt c (by decide : 0 < 3))
  have hb1 : b % 8 % 4 = b % 4 := by omega
  have hb2 : b % 8 / 4 % 2 = b / 4 % 2 := by omega
  cases Bool.or_eq_true_iff.mp h2 with
  | inl h2 =>
    have h2 := Bool.and_eq_true_iff.mp h2
    exact shape_mod (beq_iff_eq.mp h2.1) (beq_iff_eq.mp h2.2) hb1 hb2 (Nat.mod_mod ..) (shape_fst k1 k2)
  | inr h2 =>
    have h2 := Bool.and_eq_true_iff.mp h2
    have h3 := Bool.and_eq_true_iff.mp h2.1
    have h4 := Bool.and_eq_true_iff.mp h3.1
    exact shape_mod (beq_iff_eq.mp h4.1) (beq_iff_eq.mp h4.2) hb1 hb2 (Nat.mod_mod ..) (shape_snd k1 k2 (beq_iff_eq.mp h3.2) (beq_iff_eq.mp h2.2))
end
end
section
set_option backward.match.sparseCases false
open PySem
theorem fmodZ (x : Int) : ∃ n : Nat, n < 1000000 ∧ Int.fmod x 1000000 = n := ⟨(x % 1000000).toNat, by omega, by rw [Int.fmod_eq_emod_of_nonneg _ (by decide)]; omega⟩
theorem nums_ok (ns : List Int) : (numsP ns).length = 4 ∧ ∀ x ∈ numsP ns, ∃ n : Nat, n < 1000000 ∧ x = n := by
  unfold numsP
  refine ⟨?_, fun x hx => (List.mem_append.mp hx).elim (fun h => ?_) fun h => ?_⟩
  · rw [List.length_append, List.length_drop, List.length_map, List.length_take]
    exact Nat.add_sub_of_le (Nat.min_le_left 4 ns.length)
  · obtain ⟨y, _, rfl⟩ := List.mem_map.mp h
    exact fmodZ y
  · have h := List.mem_of_mem_drop h
    exact ⟨x.toNat, (show ∀ x ∈ ([8, 1, 1, 22] : List Int), x.toNat < 1000000 ∧ x = x.toNat by decide) x h⟩
theorem unc {α : Type} {p : α → Prop} {l : List α} {n : Nat} (h : l.length = n + 1) (hp : ∀ x ∈ l, p x) : ∃ a r, l = a :: r ∧ p a ∧ r.length = n ∧ ∀ x ∈ r, p x := by
  cases l with
  | nil => cases h
  | cons a r => exact ⟨a, r, rfl, hp a List.mem_cons_self, Nat.succ.inj h, fun x hx => hp x (List.mem_cons_of_mem _ hx)⟩
theorem nums_four (ns : List Int) : ∃ a b c d : Nat, (a < 1000000 ∧ b < 1000000 ∧ c < 1000000 ∧ d < 1000000) ∧ (numsP ns).map T.int = [.int a, .int b, .int c, .int d] := by
  obtain ⟨h0, h⟩ := nums_ok ns
  obtain ⟨_, _, e0, ⟨a, ha, rfl⟩, h0, h⟩ := unc h0 h
  obtain ⟨_, _, rfl, ⟨b, hb, rfl⟩, h0, h⟩ := unc h0 h
  obtain ⟨_, _, rfl, ⟨c, hc, rfl⟩, h0, h⟩ := unc h0 h
  obtain ⟨_, _, rfl, ⟨d, hd, rfl⟩, h0, h⟩ := unc h0 h
  cases List.length_eq_zero_iff.mp h0
  exact ⟨a, b, c, d, ⟨ha, hb, hc, hd⟩, congrArg (List.map T.int) e0⟩
noncomputable def tblN (l : List Nat) : T := tblT fun k => (l.getD k 0 : Nat)
theorem getD_five {α : Type} {f : Nat → List α} {k : Nat} (h : k ∈ fiveL) : (fiveL.map f).getD k [] = f k :=
  by_map (f := fun k => (fiveL.map f).getD k []) (g := f) (l := fiveL) rfl h
theorem far_tbl {s : Nat → Nat} {ps : List (Nat × Nat)} (h : ps.length = 4 ∨ ps.length = 5) {W : List (List Nat)} (hW : W = fiveL.map fun k => wordP (s k) ps) : tblT (fun k => (farP (fun k => wordP (s k) ps) k : Int)) = tblN (hamL W) := by
  have e : (List.range 10).map (farP fun k => wordP (s k) ps) = hamL W := by
    have h1 : (List.range 10).map (farP fun k => wordP (s k) ps) = prsL.map fun p => levP (wordP (s p.1) ps) (wordP (s p.2) ps) (2 * (wordP (s p.1) ps).length) := rfl
    rw [h1, hW]
    refine List.map_congr_left fun p hp => ?_
    have h2 := (show ∀ p ∈ prsL, p.1 ∈ fiveL ∧ p.2 ∈ fiveL by decide) p hp
    rw [getD_five h2.1, getD_five h2.2]
    exact lev_ham _ _ h
  rw [← e]; rfl
theorem tx_plain : ∀ k ∈ fiveL, (txM k).map (hom []) = tx0 := by decide
theorem look_at {a b c d : Nat} {W : List (List Nat)} (h : Ws a b c W) : lookL (hom (leftP (d / 5 % 4)) (lineG (txM (d % 5)) a b c)) = some W := by
  have hd5 : d % 5 < 5 := Nat.mod_lt _ (by decide)
  by_cases q : d / 5 % 4 = 1
  · rw [q]; exact (h.2.1 _ hd5).2
  · rw [show leftP (d / 5 % 4) = [] from if_neg q, ← line_hom, tx_plain _ (five_mem hd5)]; exact h.1
theorem line_len {a b c d : Nat} {W : List (List Nat)} (h : Ws a b c W) : (lineP a b c d).length ≤ 300 := by
  obtain ⟨one, hl⟩ := h.2.1 _ (Nat.mod_lt d (by decide))
  have hl := ite_c hl
  have h1 := hom_len (x := [92]) one
  have h2 := hom_len (x := dressP (d / 5 % 4)) one
  have h3 := dress_len (d / 5 % 4)
  rw [line_dress]
  rw [List.length_singleton] at h1
  omega
theorem F_joined {ns : List Int} {k : Nat} {t : T} : (GLw ns (k + 1)).F 13 [t] = runF 14 (b_jn pfG) [t] := by
  show runF 14 (b_jn (GLw ns k)) [t] = _
  rw [show b_jn (GLw ns k) = b_jn pfG from rfl]
theorem jn_at {ts : List (Nat × Nat)} {r : Option (T × Nat)} (h : jnR ts = r) : runF 14 (b_jn pfG) [tblN (distL ts)] = r := by
  unfold jnR at h
  rw [show tblN (distL ts) = tblT (distI ts) from rfl]
  exact h
theorem ta_at {ns : List Int} {s : Nat → Nat} {ps : List (Nat × Nat)} (h : ps.length = 4 ∨ ps.length = 5) (hp : ps.length ≤ 5) : (GLw ns 5).F 12 [.list [.str (wordP (s 0) ps), .str (wordP (s 1) ps), .str (wordP (s 2) ps), .str (wordP (s 3) ps), .str (wordP (s 4) ps)]] = some (tblT fun k => (farP (fun k => wordP (s k) ps) k : Int), 0) := by
  show runF 5 (b_ta (GLw ns 4)) _ = _
  exact ta_run (g_lev (k := 2)) (fun k => wordP (s k) ps) ps.length (Nat.le_trans hp (by decide)) (fun i _ => wordP_len) (fun i _ => word_lt h)
theorem plain_law (ns : List Int) (hns : ns.length ≤ 63) : (GLw ns 6).F 17 [.adr scrA] = some (.bool true, 0) := by
  obtain ⟨a, b, c, d, ⟨ha, hb, hc, hd⟩, hn⟩ := nums_four ns
  obtain ⟨⟨W, hW⟩, es, j1, ⟨j2, j3⟩, j4⟩ := shape_all a b c
  have hs : stripP (lineP a b c d) = hom (leftP (d / 5 % 4)) (lineG (txM (d % 5)) a b c) := by rw [line_dress]; exact strip_one (hW.2.1 _ (Nat.mod_lt _ (by decide))).1 (Nat.mod_lt _ (by decide))
  have hL := look_at (d := d) hW
  have hlen := line_len (d := d) hW
  generalize hom (leftP (d / 5 % 4)) (lineG (txM (d % 5)) a b c) = left at hs hL
  obtain ⟨sg, sp, prs, l1, l2, l3, l4, l5, l6, l7⟩ := lookL_of hL
  have hsh : IsSh (d / 20 % 7) := (show ∀ k ∈ List.range 7, IsSh k from fun k hk => hk) _ (List.mem_range.mpr (Nat.mod_lt _ (by decide)))
  have hp : prs.length ≤ 5 := l5.elim (fun h => by rw [h]; decide) fun h => by rw [h]; decide
  have ht := tiesP_ok a b c
  have h7 : (GLw ns 5).F 7 [.adr scrA] = some (.list [.int a, .int b, .int c, .int d], 0) := by
    rw [← hn]
    exact nm_run (G := GLw ns 4) (by rw [gt_ro]; rfl) hns
  have h8 : (GLw ns 5).F 8 [.list [.int a, .int b, .int c, .int d]] = some (.tup [.str (lineP a b c d), .list (tTies (tiesP a b c))], 0) := la_run (G := GLw ns 4) ha hb hc hd
  have h5 : (GLw ns 5).F 5 [.str (lineP a b c d)] = some (.str left, 0) := by
    rw [← hs]
    exact g_strip (k := 4) hlen
  have h9 : (GLw ns 5).F 9 [.str left] = some (.tup [.list (tI sg.dropLast), .dI (tD sp)], 0) := rd_run (G := GLw ns 4) (g_varint (k := 3)) (Nat.le_trans l1 (by decide)) l2 (Nat.le_trans l3 (by decide))
  have h10 : (GLw ns 5).F 10 [.str left, .list (tI sg.dropLast)] = some (.list (tTies prs), 0) := pa_run (G := GLw ns 4) (g_check (k := 2)) l1 (by rw [List.length_dropLast]; exact Nat.le_trans (Nat.sub_le _ _) l3) l4
  have h11 : ∀ k : Nat, k < 5 → (GLw ns 5).F 11 [.int ((spotN sp k : Nat) : Int), .list (tTies prs)] = some (.str (wordP (spotN sp k) prs), 0) := fun k hk => wo_run (G := GLw ns 4) (Nat.le_trans hp (by decide))
  have h12 : (GLw ns 5).F 12 [.list [.str (wordP (spotN sp 0) prs), .str (wordP (spotN sp 1) prs), .str (wordP (spotN sp 2) prs), .str (wordP (spotN sp 3) prs), .str (wordP (spotN sp 4) prs)]] = some (tblT fun k => (farP (fun k => wordP (spotN sp k) prs) k : Int), 0) := ta_at (s := spotN sp) l5 hp
  have h13 : (GLw ns 5).F 13 [tblT fun k => (farP (fun k => wordP (spotN sp k) prs) k : Int)] = some (.dI (tD es), 0) := by
    rw [far_tbl l5 l7, hW.2.2, F_joined (k := 4)]
    exact jn_at j1
  have h15 : (GLw ns 5).F 15 [.dI (tD es), .int (d / 20 % 7 : Nat)] = some (.dS (tSI (toldGo (d / 20 % 7) es es [])), 0) := told_run (G := GLw ns 4) (g_part (k := 3)) (g_nm (k := 3)) hsh j2 (Nat.le_trans j3 (by decide))
  have h16 : (GLw ns 5).F 16 [.list (tTies (tiesP a b c)), .int (d / 20 % 7 : Nat)] = some (.dS (tSI (dueGo (d / 20 % 7) (tiesP a b c) [])), 0) := due_run (G := GLw ns 4) (g_part (k := 3)) hsh ht (show 4 ≤ 1000 by decide)
  exact law_run (G := GLw ns 5) (w := fun k => wordP (spotN sp k) prs) h7 h8 h5 h9 h10 l6 h11 h12 h13 hd h15 h16 (told_due hsh j2 ht j4)
end
section
set_option maxHeartbeats 0
set_option backward.match.sparseCases false
open PySem PySem.W PySem.W.X PyProof.Rows PySem.Calls
noncomputable def asP : Stmt → List Expr × Expr
  | .Assign t v _ => (t, v)
  | .Expr v _ => ([], v)
  | _ => default
noncomputable def ifP : Stmt → Expr × List Stmt × List Stmt
  | .If e a b _ => (e, a, b)
  | .For t e a _ _ => (t, [.Expr e default], a)
  | _ => default
noncomputable def yiP : Expr → Option Expr
  | .Yield e _ => e
  | .Call f xs _ _ => some (.Tuple (f :: xs) 0 default)
  | _ => none
noncomputable def yiD (s : Stmt) : Expr := (yiP (asP s).2).getD default
noncomputable def tpD (e : Expr) (i : Nat) : Expr := ((tpP e).getD default).1.getD i default
noncomputable def nmD (e : Expr) : PySem.Str := ((nmP e).getD default).1
noncomputable def asQ (s : Stmt) : List Pos := [((asP s).1.getD 0 default).pos, (asP s).2.pos, s.pos]
noncomputable def stD (l : List Stmt) (i : Nat) : Stmt := l.getD i default
noncomputable def gpD (b : List Stmt) : GP :=
  let f := ifP (stD b 2)
  let c := (asP (stD f.2.1 0)).2
  let i0 := ifP (stD f.2.2 0)
  let i2 := ifP (stD i0.2.2 0)
  let i4 := ifP (stD b 3)
  let y1 := stD i0.2.1 0
  let y3 := stD i2.2.2 0
  let y5 := stD i4.2.1 0
  let g := (yiP c).getD default
  ⟨fun i => [i0.1, yiD y1, i2.1, yiD y3, i4.1, yiD y5].getD i default,
   fun i => ([(asP y1).2.pos, y1.pos, (asP y3).2.pos, y3.pos, (stD i0.2.2 0).pos, (stD f.2.2 0).pos, (tpD f.1 0).pos, (tpD f.1 1).pos, f.1.pos, (asP y5).2.pos, y5.pos, (stD b 3).pos] ++ (asQ (stD b 0) ++ (asQ (stD b 1) ++ ([(tpD g 0).pos, (tpD g 1).pos, c.pos, (stD b 2).pos] ++ (asQ (stD i0.2.1 1) ++ asQ (stD i2.2.1 0)))))).getD i default,
   fun i => [nmD (tpD g 1), nmD (tpD f.1 0), nmD ((asP (stD b 1)).1.getD 0 default), nmD (tpD f.1 1)].getD i ""⟩
noncomputable def DefC (n : PySem.Str) (nv np : Nat) (b : GX → MS) : Prop := recN vw n = some (recD vw n) ∧ (∃ ds, ∀ G, sx G ds 14 (recD vw n).scope (recD vw n).body = b G) ∧ fwf (recD vw n).scope nv = true ∧ (recD vw n).scope.isCoroutine = false ∧ (recD vw n).scope.isGenerator = false ∧ np ≤ nv ∧
    ∀ (pm cd doc : Value) (xs : List Value), xs.length = np → bindArgs (docDef (recD vw n).name (recD vw n).params (recD vw n).body (recD vw n).scope pm cd doc) ⟨xs, []⟩ = pure (bindsOf (recD vw n).scope xs)
theorem len1 {xs : List Value} (h : xs.length = 1) : ∃ x, xs = [x] := List.length_eq_one_iff.mp h
theorem len2 {xs : List Value} (h : xs.length = 2) : ∃ x y, xs = [x, y] := by
  cases xs with
  | nil => cases h
  | cons x xs => exact Exists.elim (len1 (Nat.succ.inj h)) fun y e => ⟨x, y, congrArg (x :: ·) e⟩
theorem len3 {xs : List Value} (h : xs.length = 3) : ∃ x y z, xs = [x, y, z] := by
  cases xs with
  | nil => cases h
  | cons x xs => exact Exists.elim (len2 (Nat.succ.inj h)) fun y h => Exists.elim h fun z e => ⟨x, y, z, congrArg (x :: ·) e⟩
theorem dc0 : DefC "_substitution_cost" 2 2 b_su := ⟨by kernel_rfl, ⟨false, by intro G; kernel_rfl⟩, by kernel_rfl, by kernel_rfl, by kernel_rfl, by decide, fun pm cd doc xs h => by obtain ⟨x, y, rfl⟩ := len2 h; kernel_rfl⟩
theorem dc1 : DefC "_levenshtein_distance" 14 3 b_lv := ⟨by kernel_rfl, ⟨false, by intro G; kernel_rfl⟩, by kernel_rfl, by kernel_rfl, by kernel_rfl, by decide, fun pm cd doc xs h => by obtain ⟨x, y, z, rfl⟩ := len3 h; kernel_rfl⟩
theorem dc2 : DefC "pretty_flags" 4 1 b_pf := ⟨by kernel_rfl, ⟨false, by intro G; kernel_rfl⟩, by kernel_rfl, by kernel_rfl, by kernel_rfl, by decide, fun pm cd doc xs h => by obtain ⟨x, rfl⟩ := len1 h; kernel_rfl⟩
theorem dc3 : DefC "_parse_varint" 3 1 b_vn := ⟨by kernel_rfl, ⟨false, by intro G; kernel_rfl⟩, by kernel_rfl, by kernel_rfl, by kernel_rfl, by decide, fun pm cd doc xs h => by obtain ⟨x, rfl⟩ := len1 h; kernel_rfl⟩
theorem dc5 : DefC "_strip_quoted_realnames" 6 1 b_str := ⟨by kernel_rfl, ⟨false, by intro G; kernel_rfl⟩, by kernel_rfl, by kernel_rfl, by kernel_rfl, by decide, fun pm cd doc xs h => by obtain ⟨x, rfl⟩ := len1 h; kernel_rfl⟩
theorem dc6 : DefC "_check_parenthesis" 4 1 b_chk := ⟨by kernel_rfl, ⟨false, by intro G; kernel_rfl⟩, by kernel_rfl, by kernel_rfl, by kernel_rfl, by decide, fun pm cd doc xs h => by obtain ⟨x, rfl⟩ := len1 h; kernel_rfl⟩
theorem dc7 : DefC "_law_numbers" 2 1 b_nm := ⟨by kernel_rfl, ⟨false, by intro G; kernel_rfl⟩, by kernel_rfl, by kernel_rfl, by kernel_rfl, by decide, fun pm cd doc xs h => by obtain ⟨x, rfl⟩ := len1 h; kernel_rfl⟩
theorem dc8 : DefC "_law_laid" 11 1 b_la := ⟨by kernel_rfl, ⟨false, by intro G; kernel_rfl⟩, by kernel_rfl, by kernel_rfl, by kernel_rfl, by decide, fun pm cd doc xs h => by obtain ⟨x, rfl⟩ := len1 h; kernel_rfl⟩
theorem dc9 : DefC "_law_read" 5 1 b_rd := ⟨by kernel_rfl, ⟨false, by intro G; kernel_rfl⟩, by kernel_rfl, by kernel_rfl, by kernel_rfl, by decide, fun pm cd doc xs h => by obtain ⟨x, rfl⟩ := len1 h; kernel_rfl⟩
theorem dc10 : DefC "_law_pairs" 6 2 b_pa := ⟨by kernel_rfl, ⟨false, by intro G; kernel_rfl⟩, by kernel_rfl, by kernel_rfl, by kernel_rfl, by decide, fun pm cd doc xs h => by obtain ⟨x, y, rfl⟩ := len2 h; kernel_rfl⟩
theorem dc11 : DefC "_law_word" 4 2 b_wo := ⟨by kernel_rfl, ⟨false, by intro G; kernel_rfl⟩, by kernel_rfl, by kernel_rfl, by kernel_rfl, by decide, fun pm cd doc xs h => by obtain ⟨x, y, rfl⟩ := len2 h; kernel_rfl⟩
theorem dc12 : DefC "_law_table" 5 1 b_ta := ⟨by kernel_rfl, ⟨false, by intro G; kernel_rfl⟩, by kernel_rfl, by kernel_rfl, by kernel_rfl, by decide, fun pm cd doc xs h => by obtain ⟨x, rfl⟩ := len1 h; kernel_rfl⟩
theorem dc13 : DefC "_law_joined" 14 1 b_jn := ⟨by kernel_rfl, ⟨false, by intro G; kernel_rfl⟩, by kernel_rfl, by kernel_rfl, by kernel_rfl, by decide, fun pm cd doc xs h => by obtain ⟨x, rfl⟩ := len1 h; kernel_rfl⟩
theorem dc14 : DefC "_law_part" 1 1 b_part := ⟨by kernel_rfl, ⟨false, by intro G; kernel_rfl⟩, by kernel_rfl, by kernel_rfl, by kernel_rfl, by decide, fun pm cd doc xs h => by obtain ⟨x, rfl⟩ := len1 h; kernel_rfl⟩
theorem dc15 : DefC "_law_told" 5 2 b_told := ⟨by kernel_rfl, ⟨true, by intro G; kernel_rfl⟩, by kernel_rfl, by kernel_rfl, by kernel_rfl, by decide, fun pm cd doc xs h => by obtain ⟨x, y, rfl⟩ := len2 h; kernel_rfl⟩
theorem dc16 : DefC "_law_due" 8 2 b_due := ⟨by kernel_rfl, ⟨true, by intro G; kernel_rfl⟩, by kernel_rfl, by kernel_rfl, by kernel_rfl, by decide, fun pm cd doc xs h => by obtain ⟨x, y, rfl⟩ := len2 h; kernel_rfl⟩
theorem dc17 : DefC "law" 10 1 b_law := ⟨by kernel_rfl, ⟨false, by intro G; kernel_rfl⟩, by kernel_rfl, by kernel_rfl, by kernel_rfl, by decide, fun pm cd doc xs h => by obtain ⟨x, rfl⟩ := len1 h; kernel_rfl⟩
noncomputable def DefQ (q : PySem.Str × Option (Nat × Nat × (GX → MS))) : Prop := ∀ nv np b, q.2 = some (nv, np, b) → DefC q.1 nv np b
theorem dq {n : PySem.Str} {nv np : Nat} {b : GX → MS} (d : DefC n nv np b) : DefQ (n, some (nv, np, b)) := fun _ _ _ h => by cases h; exact d
theorem dq0 {n : PySem.Str} : DefQ (n, none) := fun _ _ _ h => nomatch h
theorem faC {α : Type} {p : α → Prop} {a : α} {l : List α} (h : p a) (t : ∀ q ∈ l, p q) : ∀ q ∈ a :: l, p q := List.forall_mem_cons.mpr ⟨h, t⟩
theorem dc_list : ∀ q ∈ fnN.zip tabL, DefQ q := faC (dq dc0) (faC (dq dc1) (faC (dq dc2) (faC (dq dc3) (faC dq0 (faC (dq dc5) (faC (dq dc6) (faC (dq dc7) (faC (dq dc8) (faC (dq dc9) (faC (dq dc10) (faC (dq dc11) (faC (dq dc12) (faC (dq dc13) (faC (dq dc14) (faC (dq dc15) (faC (dq dc16) (faC (dq dc17) (fun _ h => absurd h List.not_mem_nil))))))))))))))))))
theorem zip_mem {α β : Type} {l : List α} {m : List β} {i : Nat} {a : α} {b : β} (h1 : l[i]? = some a) (h2 : m[i]? = some b) : (a, b) ∈ l.zip m := List.mem_of_getElem? (List.getElem?_zip_eq_some.mpr ⟨h1, h2⟩)
noncomputable def esOf (o : Option Obj) : List DictEntry := match (o.getD default).data with
  | .dict es _ => es.toList
  | _ => []
theorem chkT : Chk gintsT flagsT tabT (kF k0.w.params) where
  sys := by kernel_rfl
  gint := fun g n i h1 h2 => by_map (f := fun q => valOf vw q.1) (g := fun q => some (.int q.2)) (l := gnN.zip gintsT) (by kernel_rfl) (zip_mem h1 h2)
  bi := fun n v h => by
    have key : blts.map (fun q => (nsIn (kF k0.w.params) mainGlobals q.1, bootBuiltins q.1, q.1 == ("__name__" : PySem.Str))) = blts.map (fun q => (some none, some q.2, false)) := by kernel_rfl
    have := by_map key h
    dsimp only at this
    injection this with h1 h2
    injection h2 with h2 h3
    exact ⟨h1, h2, ne_of_beq_false h3⟩
  flag := ⟨29, esOf ((kF k0.w.params).lookup 29), 10, by kernel_rfl, by decide, by kernel_rfl, by kernel_rfl, by decide⟩
  defs := fun f n nv np b h1 h2 => dc_list _ (zip_mem h1 (Option.join_eq_some_iff.mp h2)) nv np b rfl
  gen := ⟨gpD (recD vw genN).body, by kernel_rfl, by kernel_rfl, by kernel_rfl, by kernel_rfl, by kernel_rfl, by kernel_rfl, fun pm cd doc v => by kernel_rfl, by kernel_rfl, by kernel_rfl, fun i h => by_map (f := fun i => nIx (recD vw genN).scope ((gpD (recD vw genN).body).nm i)) (g := id) (l := List.range 4) (by kernel_rfl) (List.mem_range.mpr h), fun G => ⟨by kernel_rfl, by kernel_rfl, by kernel_rfl, by kernel_rfl, by kernel_rfl, by kernel_rfl⟩⟩
theorem law_at : nsIn (kF k0.w.params) mainGlobals "law" = some (some (.ref 127)) := by kernel_rfl
end
section
set_option maxHeartbeats 0
set_option backward.match.sparseCases false
open PySem PySem.W PySem.W.X PySem.W.ZRun PyProof.Rows PySem.Calls
set_option Elab.async false
theorem left_once {p q : Program} {loose : List PySem.Str} {Xt : Shared → Bool} {α : Type} {Yf : Shared → α} {Ya : World → α} {N : Nat} {H₀ : Params → Heap} {gs₀ : Array GenState} {d₀ : Drawn} {k₀ : Nat}
    (open_ : ∀ w : World, (fencedOpening treeTable p w N).map (fun s => (s.heap, s.gens, s.drawn, s.toks)) = some (H₀ w.params, gs₀, d₀, k₀))
    (h : ∀ (w : World), (fun os => (topFrom treeTable p w N ⟨H₀ w.params, gs₀, d₀, k₀, os⟩).map fun s => (openSeen q loose (importedModules p.main.body) Xt true s, Yf s)) = fun _ => some (openGood q loose, Ya w)) : LeftO p q loose Xt Yf Ya N true := by
  intro w
  obtain ⟨⟨h0, gs, d, k, os⟩, e, e'⟩ := Option.map_eq_some_iff.mp (open_ w)
  obtain ⟨rfl, rfl, rfl, rfl⟩ : h0 = H₀ w.params ∧ gs = gs₀ ∧ d = d₀ ∧ k = k₀ := by simpa using e'
  unfold openEnds
  rw [e]
  exact congrFun (h w) os
noncomputable def obsK (s : Shared) : List (Option Obj) × Nat := ([1, 3, 29].map s.heap.get?, s.heap.objs.size)
noncomputable def valK (w : World) : List (Option Obj) × Nat := ((kF w.params).map fun p => some p.2, 128)
theorem opn : ∀ w : World, (fencedOpening treeTable prog w 1628).map (fun s => (s.heap, s.gens, s.drawn, s.toks)) = some (PySem.W.boot_heap w.params, Array.mk [], PySem.W.boot_drawn, PySem.W.boot_toks) :=
  boot_open (by rfl) (by rfl) (fun s => by rfl)
noncomputable def atEnd (w : World) : Prop := (fun os => (topFrom treeTable prog w 1628 ⟨PySem.W.boot_heap w.params, Array.mk [], PySem.W.boot_drawn, PySem.W.boot_toks, os⟩).map fun s => (openSeen vw ls (importedModules prog.main.body) xt true s, obsK s)) = fun _ => some (openGood vw ls, valK w)
theorem atEnd_f (w : World) : atEnd (w.withFollow "special-get-raises" false) := by unfold atEnd; kernel_rfl
theorem atEnd_t (w : World) : atEnd (w.withFollow "special-get-raises" true) := by unfold atEnd; kernel_rfl
theorem leftL : LeftO prog vw ls xt obsK valK 1628 := left_once opn (byRow2 (P := atEnd) "special-get-raises" atEnd_f atEnd_t)
theorem k_facts {w : World} {s : Shared} (y : obsK s = valK w) : (kF w.params).In s.heap ∧ s.heap.objs.size = 128 :=
  ⟨InK.of (K := kF) (as := [1, 3, 29]) (fun _ => rfl) w s (congrArg Prod.fst y), congrArg Prod.snd y⟩
end
section
set_option maxHeartbeats 0
set_option backward.match.sparseCases false
open PySem PySem.W PySem.W.X PySem.W.ZRun PyProof.Rows PySem.Calls
set_option Elab.async false
noncomputable def lawD : DefRec := ((defOf vw "law").getD (noRec, [])).1
theorem good_end {c : ClaimW} {cl : PySem.Str → Option Addr} {mean : ExcName → Option Value} {args : List WData} {s₁ s' : Shared} (hr : ∀ cls, c.raises args cls = false) (hp : c.post args (.bool true) args = true)
    (k : ∀ a o, s₁.heap.get? a = some o → s'.heap.get? a = some o) (os : s'.os = s₁.os) (hb : AllBare s'.gens) : GoodWG c cl mean args s₁ (.ok (.ret (.bool true))) s' :=
  ⟨.inl ⟨_, _, [], rfl, hr, ReadsW.bool true, hp, fun _ => ⟨List.nodup_nil, fun _ hm => (nomatch hm)⟩⟩, .of_keep k, os, hb⟩
theorem walkT {d : DefRec} {kwd : List (PySem.Str × PySem.Expr)} (hn : d.name = "law") : WalkX vw ls (XL vw []) obsK valK rowW d kwd fun f vs => PySem.call f vs := by
  intro w s₀ s₁ mg mb G y fa o pm cd doc dV kV ho hd hcd hD hmg hg args vals as L hpre hlay hrd hwl hlo
  obtain ⟨ZI, ZN⟩ := k_facts y
  have KX := Frag.In.keeps ZI L.keeps
  clear ho hd hcd hD y
  refine Ground.open G ?_
  intro T B D TE TW
  clear B D TE TW
  wrow_args hpre hlay hrd hwl hlo
  obtain ⟨hat, hsz⟩ := script_at L
  rw [ZN] at hat hsz
  subst hat
  have hfa : some (Value.ref fa) = some (Value.ref 127) := (hn ▸ hmg).symm.trans (mg_of KX T.g (by kernel_rfl))
  obtain rfl : fa = 127 := by injection hfa with hfa; injection hfa
  have hlist := script_obj L (by assumption)
  rename IntsAre _ _ => hints
  refine goal_all (goal_k0 chkT 6 (by decide) law_at (plain_law _)) ⟨w, s₁.heap, mg, mb, _⟩ ⟨KX, ⟨_, T⟩, ⟨_, hlist, hints⟩, ?len⟩ _ _ _ rfl hg ?_
  case len => dsimp only; omega
  exact fun s' k os hb => good_end (fun _ => rfl) (by first | rfl | wrow_post) k os hb
end
end Mine
set_option maxHeartbeats 0
open PySem PySem.W PySem.W.X PySem.W.ZRun PyProof.Rows PySem.Calls
open Mine in
theorem PySem.Challenge.cw_rw0054_01_holds : PySem.Challenge.rw_rw0054_01.Holds := by
  refine holds_law (by kernel_rfl) fun said => ?_
  refine holds_openX (q := vw) (loose := ls) (Xt := xt) (XP := XL vw []) (Yf := obsK) (Ya := valK) (N := 1628) (d := lawD) (kwd := []) leftL (fun s e => xl_of s (Bool.and_eq_true_iff.mp e).1) XL.keeps (by kernel_rfl) (by kernel_rfl) (by kernel_rfl) (fun s e => recFacts_of (Bool.and_eq_true_iff.mp e).2) (by rfl) said (by decide +kernel) ⟨rfl, rfl, rfl, rfl, rfl, by decide +kernel⟩ ?hw (walkT (by kernel_rfl))
  w_witness2
