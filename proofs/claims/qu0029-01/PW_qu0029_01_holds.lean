import PyProof.Rows.All
import Wide.All
import OpenK.AllK
import Wide.FinOn
import Lean
import PySem.Challenge.RW_qu0029_01
set_option Elab.async false
set_option linter.all false
section
open PySem PySem.W PyProof.Rows
set_option Elab.async false
namespace Mine

/-- a value that needs no heap -/
inductive Sc where
  | none
  | bool (b : Bool)
  | int (i : Int)
  | str (x : List Nat)
  | bytes (b : List UInt8)
  deriving DecidableEq, Inhabited

/-- a datum: what a variable may hold -/
inductive D where
  | undef
  | sc (c : Sc)
  | list (l : List Sc)
  | tup (l : List Sc)
  | rng (a b c : Int)
  | own (l : List Sc)
  | ba (l : List UInt8)
  | fba (l : List UInt8)
  | bm (i : Nat)
  deriving Inhabited

inductive BOp where
  | add | sub | mul | mod | fdiv
  deriving DecidableEq
inductive COp where
  | eq | ne | lt | le | gt | ge | isin | notin
  deriving DecidableEq
inductive F1 where
  | len | sum | sorted | range | bytes | parts | hooks | decode
  deriving DecidableEq
inductive F2 where
  | range | encode | swap
  deriving DecidableEq
inductive F3 where
  | range | moved
  deriving DecidableEq
inductive M0 where
  | splitlines | rstrip | encode | decode | splitNL | replDot | countDot | translate
  deriving DecidableEq
inductive M1 where
  | join | endswith
  deriving DecidableEq
inductive GV where
  | crlf | hexd
  deriving DecidableEq

set_option genInjectivity false in
set_option genSizeOf false in
inductive X where
  | fail
  | c (v : Sc)
  | v (i : Nat)
  | g (i : GV)
  | bin (o : BOp) (a b : X)
  | neg (a : X)
  | cmp (o : COp) (a b : X)
  | ite (t a b : X)
  | and (a b : X)
  | not (a : X)
  | idx (a i : X)
  | slN (a : X)
  | slL (a lo : X)
  | slU (a hi : X)
  | slB (a lo hi : X)
  | l0
  | l1 (a : X)
  | l3 (a b c : X)
  | tupc (l : List Int)
  | f1 (f : F1) (a : X)
  | f2 (f : F2) (a b : X)
  | f3 (f : F3) (a b c : X)
  | m0 (m : M0) (a : X)
  | m1 (m : M1) (a b : X)
  | comp (cl : Bool) (fvs : List Nat) (it : X) (cond : Option X) (elt : X)
  | comp2 (fvs : List Nat) (it it2 : X) (cond : Option X) (elt : X)

set_option genInjectivity false in
set_option genSizeOf false in
inductive S where
  | fail
  | skip
  | seq (a b : S)
  | asg (i : Nat) (e : X)
  | aug (i : Nat) (e : X)
  | ifs (t : X) (a b : S)
  | for_ (i : Nat) (it : X) (body : S)
  | while_ (t : X) (body : S)
  | ret (e : X)
  | retOwn (i : Nat)
  | brk
  | cont
  | newOwn (i : Nat)
  | app (i : Nat) (e : X)
  | ins0 (i : Nat) (e : X)
  | newBA (i : Nat) (e : X)
  | setBA (i : Nat) (ix e : X)
  | alias (j i : Nat)
  | bmc (j : Nat) (e : X)

/-! the prims -/
noncomputable def scInt (x : Sc) : Option Int := match x with
  | .int a => some a
  | .none => none
  | .bool _ => none
  | .str _ => none
  | .bytes _ => none
noncomputable def scStr (x : Sc) : Option (List Nat) := match x with
  | .str a => some a
  | .none => none
  | .bool _ => none
  | .int _ => none
  | .bytes _ => none
noncomputable def scBytes (x : Sc) : Option (List UInt8) := match x with
  | .bytes a => some a
  | .none => none
  | .bool _ => none
  | .int _ => none
  | .str _ => none
noncomputable def asSc (x : D) : Option Sc := match x with
  | .sc a => some a
  | .undef => none
  | .list _ => none
  | .tup _ => none
  | .rng _ _ _ => none
  | .own _ => none
  | .ba _ => none
  | .fba _ => none
  | .bm _ => none
noncomputable def D.list? (x : D) : Option (List Sc) := match x with
  | .list a => some a
  | .undef => none
  | .sc _ => none
  | .tup _ => none
  | .rng _ _ _ => none
  | .own _ => none
  | .ba _ => none
  | .fba _ => none
  | .bm _ => none
noncomputable def D.tup? (x : D) : Option (List Sc) := match x with
  | .tup a => some a
  | .undef => none
  | .sc _ => none
  | .list _ => none
  | .rng _ _ _ => none
  | .own _ => none
  | .ba _ => none
  | .fba _ => none
  | .bm _ => none
noncomputable def D.fba? (x : D) : Option (List UInt8) := match x with
  | .fba a => some a
  | .undef => none
  | .sc _ => none
  | .list _ => none
  | .tup _ => none
  | .rng _ _ _ => none
  | .own _ => none
  | .ba _ => none
  | .bm _ => none
noncomputable def D.own? (x : D) : Option (List Sc) := match x with
  | .own a => some a
  | .undef => none
  | .sc _ => none
  | .list _ => none
  | .tup _ => none
  | .rng _ _ _ => none
  | .ba _ => none
  | .fba _ => none
  | .bm _ => none
noncomputable def D.ba? (x : D) : Option (List UInt8) := match x with
  | .ba a => some a
  | .undef => none
  | .sc _ => none
  | .list _ => none
  | .tup _ => none
  | .rng _ _ _ => none
  | .own _ => none
  | .fba _ => none
  | .bm _ => none
noncomputable def D.bm? (x : D) : Option Nat := match x with
  | .bm a => some a
  | .undef => none
  | .sc _ => none
  | .list _ => none
  | .tup _ => none
  | .rng _ _ _ => none
  | .own _ => none
  | .ba _ => none
  | .fba _ => none
noncomputable def D.int? (x : D) : Option Int := (asSc x).bind scInt
noncomputable def D.str? (x : D) : Option (List Nat) := (asSc x).bind scStr
noncomputable def D.bytes? (x : D) : Option (List UInt8) := (asSc x).bind scBytes
theorem nope {α : Type} {a : α} {P : Prop} (h : none = some a) : P := nomatch h
theorem ite_or {c : Prop} [Decidable c] {α : Type} {a b z : α} (h : (if c then a else b) = z) : (c ∧ a = z) ∨ b = z := by
  by_cases hc : c
  · exact .inl ⟨hc, (if_pos hc).symm.trans h⟩
  · exact .inr ((if_neg hc).symm.trans h)
theorem ite_some {c : Prop} [Decidable c] {α : Type} {a : Option α} {z : α} (h : (if c then a else none) = some z) : c ∧ a = some z :=
  (ite_or h).resolve_right fun e => nomatch e
theorem ite_none {c : Prop} [Decidable c] {α : Type} {a : Option α} {z : α} (h : (if c then none else a) = some z) : ¬ c ∧ a = some z := by
  by_cases hc : c
  · exact nomatch (if_pos hc).symm.trans h
  · exact ⟨hc, (if_neg hc).symm.trans h⟩
theorem scInt_some {x : Sc} {a : Int} (h : scInt x = some a) : x = .int a := by cases x with
  | int b => exact congrArg Sc.int (Option.some.inj h)
  | _ => exact nope h
theorem scStr_some {x : Sc} {a : List Nat} (h : scStr x = some a) : x = .str a := by cases x with
  | str b => exact congrArg Sc.str (Option.some.inj h)
  | _ => exact nope h
theorem scBytes_some {x : Sc} {a : List UInt8} (h : scBytes x = some a) : x = .bytes a := by cases x with
  | bytes b => exact congrArg Sc.bytes (Option.some.inj h)
  | _ => exact nope h
theorem asSc_is {x : D} {a : Sc} (h : asSc x = some a) : x = .sc a := by cases x with
  | sc b => exact congrArg D.sc (Option.some.inj h)
  | _ => exact nope h
theorem D.list_some {x : D} {a : List Sc} (h : D.list? x = some a) : x = .list a := by cases x with
  | list b => exact congrArg D.list (Option.some.inj h)
  | _ => exact nope h
theorem D.tup_some {x : D} {a : List Sc} (h : D.tup? x = some a) : x = .tup a := by cases x with
  | tup b => exact congrArg D.tup (Option.some.inj h)
  | _ => exact nope h
theorem D.fba_some {x : D} {a : List UInt8} (h : D.fba? x = some a) : x = .fba a := by cases x with
  | fba b => exact congrArg D.fba (Option.some.inj h)
  | _ => exact nope h
theorem D.own_some {x : D} {a : List Sc} (h : D.own? x = some a) : x = .own a := by cases x with
  | own b => exact congrArg D.own (Option.some.inj h)
  | _ => exact nope h
theorem D.ba_some {x : D} {a : List UInt8} (h : D.ba? x = some a) : x = .ba a := by cases x with
  | ba b => exact congrArg D.ba (Option.some.inj h)
  | _ => exact nope h
theorem D.bm_some {x : D} {a : Nat} (h : D.bm? x = some a) : x = .bm a := by cases x with
  | bm b => exact congrArg D.bm (Option.some.inj h)
  | _ => exact nope h
theorem D.int_some {x : D} {a : Int} (h : x.int? = some a) : x = .sc (.int a) := by
  obtain ⟨c, hc, h⟩ := Option.bind_eq_some_iff.mp h
  rw [asSc_is hc, scInt_some h]
theorem D.str_some {x : D} {a : List Nat} (h : x.str? = some a) : x = .sc (.str a) := by
  obtain ⟨c, hc, h⟩ := Option.bind_eq_some_iff.mp h
  rw [asSc_is hc, scStr_some h]
theorem D.bytes_some {x : D} {a : List UInt8} (h : x.bytes? = some a) : x = .sc (.bytes a) := by
  obtain ⟨c, hc, h⟩ := Option.bind_eq_some_iff.mp h
  rw [asSc_is hc, scBytes_some h]
noncomputable def sizeOk (n : Nat) : Bool := decide (n ≤ 100000)

noncomputable def isInts (l : List Sc) : Option (List Int) := match l with
  | [] => some []
  | c :: r => (scInt c).bind fun i => (isInts r).map (i :: ·)
noncomputable def isStrs (l : List Sc) : Option (List (List Nat)) := match l with
  | [] => some []
  | c :: r => (scStr c).bind fun i => (isStrs r).map (i :: ·)

/-- Python's place of an index in a sequence of n items -/
noncomputable def place (i : Int) (n : Nat) : Option Nat :=
  if 0 ≤ i then (if i < n then some i.toNat else none) else (if -(n : Int) ≤ i then some (i + n).toNat else none)
/-- Python's slice bound -/
noncomputable def bnd (i : Int) (n : Nat) : Nat := if 0 ≤ i then min i.toNat n else (i + n).toNat
noncomputable def cut {α : Type} (l : List α) (lo hi : Nat) : List α := (l.take hi).drop lo

/-- range(a, b, c), c > 0 -/
noncomputable def rangeL (a b c : Int) : List Int := (List.range ((b - a + c - 1) / c).toNat).map fun i : Nat => a + c * (i : Int)
noncomputable def smallI (i : Int) : Bool := decide (-1000000 ≤ i) && decide (i ≤ 1000000)

noncomputable def binI (o : BOp) (a b : Int) : Option D := match o with
  | .add => some (.sc (.int (a + b)))
  | .sub => some (.sc (.int (a - b)))
  | .mod => if b = 0 then none else some (.sc (.int (a.fmod b)))
  | .fdiv => if 0 < b ∧ b ≤ 1000000 then some (.sc (.int (a.fdiv b))) else none
  | .mul => none
noncomputable def isAdd : BOp → Bool
  | .add => true
  | .sub => false
  | .mul => false
  | .mod => false
  | .fdiv => false
noncomputable def isMul : BOp → Bool
  | .mul => true
  | .add => false
  | .sub => false
  | .mod => false
  | .fdiv => false
noncomputable def oneN {β : Type} (l : List Nat) (k : Nat → Option β) : Option β := match l with
  | [] => none
  | x :: r => match r with
    | [] => k x
    | _ :: _ => none
noncomputable def oneS (l : List Sc) (k : Sc → Option D) : Option D := match l with
  | [] => none
  | x :: r => match r with
    | [] => k x
    | _ :: _ => none
noncomputable def binS (o : BOp) (a b : List Nat) : Option D := if isAdd o && sizeOk (a.length + b.length) then some (.sc (.str (a ++ b))) else none
noncomputable def binB (o : BOp) (a b : List UInt8) : Option D := if isAdd o && sizeOk (a.length + b.length) then some (.sc (.bytes (a ++ b))) else none
noncomputable def binLL (o : BOp) (a b : List Sc) : Option D := if isAdd o && sizeOk (a.length + b.length) then some (.list (a ++ b)) else none
noncomputable def mulS (o : BOp) (a : List Nat) (n : Int) : Option D := if isMul o = true ∧ 0 ≤ n ∧ n ≤ 100000 then oneN a fun c => some (.sc (.str (List.replicate n.toNat c))) else none
noncomputable def mulL (o : BOp) (a : List Sc) (n : Int) : Option D := if isMul o = true ∧ 0 ≤ n ∧ n ≤ 100000 then oneS a fun c => some (.list (List.replicate n.toNat c)) else none
noncomputable def binStr (o : BOp) (a : List Nat) (y : Sc) : Option D := match y with
  | .str b => binS o a b
  | .int n => mulS o a n
  | .none => none
  | .bool _ => none
  | .bytes _ => none
noncomputable def binSc (o : BOp) (x y : Sc) : Option D := match x with
  | .int a => (scInt y).bind fun b => binI o a b
  | .str a => binStr o a y
  | .bytes a => (scBytes y).bind fun b => binB o a b
  | .none => none
  | .bool _ => none
noncomputable def binList (o : BOp) (a : List Sc) (y : D) : Option D := match y with
  | .list b => binLL o a b
  | .sc c => (scInt c).bind fun n => mulL o a n
  | .undef => none
  | .tup _ => none
  | .rng _ _ _ => none
  | .own _ => none
  | .ba _ => none
  | .fba _ => none
  | .bm _ => none
noncomputable def binop (o : BOp) (x y : D) : Option D := match x with
  | .sc a => (asSc y).bind fun b => binSc o a b
  | .list a => binList o a y
  | .undef => none
  | .tup _ => none
  | .rng _ _ _ => none
  | .own _ => none
  | .ba _ => none
  | .fba _ => none
  | .bm _ => none

noncomputable def plainIS (c : Sc) : Bool := match c with
  | .int _ => true
  | .str x => x.all (· < 128)
  | .none => false
  | .bool _ => false
  | .bytes _ => false
noncomputable def cmpI (o : COp) (a b : Int) : Option Bool := match o with
  | .eq => some (decide (a = b))
  | .ne => some (!decide (a = b))
  | .lt => some (decide (a < b))
  | .le => some (decide (a ≤ b))
  | .gt => some (decide (b < a))
  | .ge => some (decide (b ≤ a))
  | .isin => none
  | .notin => none
noncomputable def cmpS (o : COp) (a b : List Nat) : Option Bool := match o with
  | .eq => some (decide (a = b))
  | .ne => some (!decide (a = b))
  | .gt => oneN a fun x => oneN b fun y => some (decide (y < x))
  | .isin => oneN a fun x => some (b.contains x)
  | .notin => oneN a fun x => some (!b.contains x)
  | .lt => none
  | .le => none
  | .ge => none
noncomputable def cmpL (o : COp) (a b : List Sc) : Option Bool := if a.all plainIS && b.all plainIS then (match o with
  | .eq => some (decide (a = b))
  | .ne => some (!decide (a = b))
  | .lt => none
  | .le => none
  | .gt => none
  | .ge => none
  | .isin => none
  | .notin => none) else none
noncomputable def cmpSc (o : COp) (x y : Sc) : Option Bool := match x with
  | .int a => (scInt y).bind fun b => cmpI o a b
  | .str a => (scStr y).bind fun b => cmpS o a b
  | .none => none
  | .bool _ => none
  | .bytes _ => none
noncomputable def cmpop (o : COp) (x y : D) : Option Bool := match x with
  | .sc a => (asSc y).bind fun b => cmpSc o a b
  | .list a => y.list?.bind fun b => cmpL o a b
  | .undef => none
  | .tup _ => none
  | .rng _ _ _ => none
  | .own _ => none
  | .ba _ => none
  | .fba _ => none
  | .bm _ => none

noncomputable def truthyS (c : Sc) : Option Bool := match c with
  | .bool b => some b
  | .int i => some (!decide (i = 0))
  | .str x => if sizeOk x.length then some (!x.isEmpty) else none
  | .none => none
  | .bytes _ => none
noncomputable def truthy (x : D) : Option Bool := (asSc x).bind truthyS

noncomputable def idxL (l : List Sc) (i : Int) : Option D := if 0 ≤ i ∧ smallI i = true then (l[i.toNat]?).map D.sc else none
noncomputable def idxS (c : Sc) (i : Int) : Option D := match c with
  | .str l => if smallI i = true then (place i l.length).bind fun j => (l[j]?).map fun c => D.sc (.str [c]) else none
  | .bytes l => if 0 ≤ i ∧ smallI i = true ∧ sizeOk l.length = true then (l[i.toNat]?).map fun c => D.sc (.int c.toNat) else none
  | .none => none
  | .bool _ => none
  | .int _ => none
noncomputable def idx (x : D) (i : Int) : Option D := match x with
  | .list l => idxL l i
  | .tup l => idxL l i
  | .sc c => idxS c i
  | .undef => none
  | .rng _ _ _ => none
  | .own _ => none
  | .ba _ => none
  | .fba _ => none
  | .bm _ => none
noncomputable def index (x y : D) : Option D := y.int?.bind (idx x)

noncomputable def lim (o : Option D) : Option (Option Int) := match o with
  | none => some none
  | some d => d.int?.bind fun a => if smallI a then some (some a) else none
noncomputable def loI (o : Option Int) (n : Nat) : Nat := match o with
  | none => 0
  | some a => bnd a n
noncomputable def hiI (o : Option Int) (n : Nat) : Nat := match o with
  | none => n
  | some a => bnd a n
noncomputable def sliceGo (n : Nat) (lo hi : Option D) (k : Nat → Nat → D) : Option D := if sizeOk n = false then none else (lim lo).bind fun a => (lim hi).bind fun b => some (k (loI a n) (hiI b n))
noncomputable def sliceS (c : Sc) (lo hi : Option D) : Option D := match c with
  | .str l => sliceGo l.length lo hi fun a b => .sc (.str (cut l a b))
  | .bytes l => sliceGo l.length lo hi fun a b => .sc (.bytes (cut l a b))
  | .none => none
  | .bool _ => none
  | .int _ => none
noncomputable def slice (x : D) (lo hi : Option D) : Option D := match x with
  | .list l => sliceGo l.length lo hi fun a b => .list (cut l a b)
  | .sc c => sliceS c lo hi
  | .undef => none
  | .tup _ => none
  | .rng _ _ _ => none
  | .own _ => none
  | .ba _ => none
  | .fba _ => none
  | .bm _ => none

noncomputable def insertI (a : Int) : List Int → List Int
  | [] => [a]
  | b :: r => if a < b then a :: b :: r else b :: insertI a r
noncomputable def sortI : List Int → List Int
  | [] => []
  | a :: r => insertI a (sortI r)

/-- the signs that splitlines and rstrip leave alone -/
noncomputable def tame (c : Nat) : Bool := decide (33 ≤ c) && decide (c ≤ 126)
/-- lines of a text whose signs are tame or newlines; no newline at the end opens a further line -/
noncomputable def linesOf : List Nat → List Nat → List (List Nat)
  | [], cur => if cur.isEmpty then [] else [cur.reverse]
  | c :: r, cur => if c = 10 then cur.reverse :: linesOf r [] else linesOf r (c :: cur)
noncomputable def splitOnNL : List Nat → List Nat → List (List Nat)
  | [], cur => [cur.reverse]
  | c :: r, cur => if c = 10 then cur.reverse :: splitOnNL r [] else splitOnNL r (c :: cur)
noncomputable def joinL (sep : List Nat) : List (List Nat) → List Nat
  | [] => []
  | [a] => a
  | a :: r => a ++ sep ++ joinL sep r

noncomputable def meth0 (m : M0) (x : D) : Option D := match m with
  | .splitlines => x.str?.bind fun l => if sizeOk l.length && l.all (fun c => tame c || c == 10) then some (.list ((linesOf l []).map .str)) else none
  | .rstrip => x.str?.bind fun l => if sizeOk l.length && l.all tame then some (.sc (.str l)) else none
  | .encode => x.str?.bind fun l => if sizeOk l.length && l.all tame then some (.sc (.bytes (l.map Nat.toUInt8))) else none
  | .decode => x.bytes?.bind fun l => if sizeOk l.length && !l.isEmpty then some (.sc (.str (l.map UInt8.toNat))) else none
  | .splitNL => x.str?.bind fun l => if sizeOk l.length then some (.list ((splitOnNL l []).map .str)) else none
  | .replDot => x.str?.bind fun l => if sizeOk l.length then some (.sc (.str (l.filter (· != 46)))) else none
  | .countDot => x.str?.bind fun l => if sizeOk l.length then some (.sc (.int (l.count 46))) else none
  | .translate => x.str?.bind fun l => if sizeOk l.length && !l.isEmpty && l.all (fun c => tame c && c != 61) then some (.sc (.str l)) else none
noncomputable def meth1 (m : M1) (x y : D) : Option D := match m with
  | .join => x.str?.bind fun s => y.list?.bind fun l => (isStrs l).bind fun ls => if sizeOk (l.length * (s.length + 1) + (ls.map List.length).sum) then some (.sc (.str (joinL s ls))) else none
  | .endswith => x.str?.bind fun a => y.str?.bind fun b => some (.sc (.bool (b.isSuffixOf a)))

structure Fns where
  parts : D → Option D
  hooks : D → Option D
  decode : D → Option D
  encode : D → D → Option D
  swap : D → D → Option D
  moved : D → D → D → Option D

noncomputable def mkRng (a b c : Int) : Option D := if smallI a && smallI b && smallI c && decide (0 < c) then some (.rng a b c) else none
noncomputable def lenS (c : Sc) : Option Nat := match c with
  | .str l => some l.length
  | .bytes l => some l.length
  | .none => none
  | .bool _ => none
  | .int _ => none
noncomputable def lenOf (x : D) : Option Nat := match x with
  | .list l => some l.length
  | .sc c => lenS c
  | .undef => none
  | .tup _ => none
  | .rng _ _ _ => none
  | .own _ => none
  | .ba _ => none
  | .fba _ => none
  | .bm _ => none
noncomputable def fn1 (Φ : Fns) (f : F1) (x : D) : Option D := match f with
  | .len => (lenOf x).bind fun n => if sizeOk n then some (.sc (.int n)) else none
  | .sum => x.list?.bind fun l => if sizeOk l.length then (isInts l).map fun x => .sc (.int x.sum) else none
  | .sorted => x.list?.bind fun l => if l.length < 64 then (isInts l).map fun x => .list ((sortI x).map .int) else none
  | .range => x.int?.bind fun b => mkRng 0 b 1
  | .bytes => x.fba?.bind fun l => if sizeOk l.length then some (.sc (.bytes l)) else none
  | .parts => Φ.parts x
  | .hooks => Φ.hooks x
  | .decode => Φ.decode x
noncomputable def fn2 (Φ : Fns) (f : F2) (x y : D) : Option D := match f with
  | .range => x.int?.bind fun a => y.int?.bind fun b => mkRng a b 1
  | .encode => Φ.encode x y
  | .swap => Φ.swap x y
noncomputable def fn3 (Φ : Fns) (f : F3) (x y z : D) : Option D := match f with
  | .range => x.int?.bind fun a => y.int?.bind fun b => z.int?.bind fun c => mkRng a b c
  | .moved => Φ.moved x y z

/-- what a loop takes -/
noncomputable def itemsS (c : Sc) : Option (List D) := match c with
  | .str l => if l.all (· < 128) then some (l.map fun c => .sc (.str [c])) else none
  | .none => none
  | .bool _ => none
  | .int _ => none
  | .bytes _ => none
noncomputable def items (x : D) : Option (List D) := match x with
  | .list l => some (l.map .sc)
  | .rng a b c => if smallI a && smallI b && smallI c && decide (0 < c) then some ((rangeL a b c).map fun i => .sc (.int i)) else none
  | .sc c => itemsS c
  | .undef => none
  | .tup _ => none
  | .own _ => none
  | .ba _ => none
  | .fba _ => none
  | .bm _ => none
noncomputable def readable (x : D) : Option D := match x with
  | .sc c => some (.sc c)
  | .list l => some (.list l)
  | .tup l => some (.tup l)
  | .rng a b c => some (.rng a b c)
  | .fba l => some (.fba l)
  | .undef => none
  | .own _ => none
  | .ba _ => none
  | .bm _ => none
noncomputable def sc3 (x y z : D) : Option D := (asSc x).bind fun a => (asSc y).bind fun b => (asSc z).map fun c => .list [a, b, c]

/-- the turns of a comprehension over the items, a kept element or none each -/
noncomputable def collect (f : D → Option (List Sc)) : List D → Option (List Sc)
  | [] => some []
  | d :: r => (f d).bind fun a => (collect f r).map (a ++ ·)

noncomputable def gval : GV → D
  | .crlf => .sc (.str [13, 10])
  | .hexd => .sc (.str [48, 49, 50, 51, 52, 53, 54, 55, 56, 57, 97, 98, 99, 100, 101, 102, 65, 66, 67, 68, 69, 70])

noncomputable def ev (Φ : Fns) : X → List D → Option D
  | .fail, _ => none
  | .c v, _ => some (.sc v)
  | .v i, ρ => (ρ[i]?).bind readable
  | .g i, _ => some (gval i)
  | .bin o a b, ρ => (ev Φ a ρ).bind fun x => (ev Φ b ρ).bind fun y => binop o x y
  | .neg a, ρ => (ev Φ a ρ).bind fun x => x.int?.map fun i => .sc (.int (-i))
  | .cmp o a b, ρ => (ev Φ a ρ).bind fun x => (ev Φ b ρ).bind fun y => (cmpop o x y).map fun b => .sc (.bool b)
  | .ite t a b, ρ => ((ev Φ t ρ).bind truthy).bind fun c => if c then ev Φ a ρ else ev Φ b ρ
  | .and a b, ρ => ((ev Φ a ρ).bind truthy).bind fun c => if c then ((ev Φ b ρ).bind truthy).map (fun d => .sc (.bool d)) else some (.sc (.bool false))
  | .not a, ρ => ((ev Φ a ρ).bind truthy).map fun c => .sc (.bool (!c))
  | .idx a i, ρ => (ev Φ a ρ).bind fun x => (ev Φ i ρ).bind fun y => index x y
  | .slN a, ρ => (ev Φ a ρ).bind fun x => slice x none none
  | .slL a lo, ρ => (ev Φ a ρ).bind fun x => (ev Φ lo ρ).bind fun y => slice x (some y) none
  | .slU a hi, ρ => (ev Φ a ρ).bind fun x => (ev Φ hi ρ).bind fun y => slice x none (some y)
  | .slB a lo hi, ρ => (ev Φ a ρ).bind fun x => (ev Φ lo ρ).bind fun y => (ev Φ hi ρ).bind fun z => slice x (some y) (some z)
  | .l0, _ => some (.list [])
  | .l1 a, ρ => (ev Φ a ρ).bind fun x => (asSc x).map fun c => .list [c]
  | .l3 a b c, ρ => (ev Φ a ρ).bind fun x => (ev Φ b ρ).bind fun y => (ev Φ c ρ).bind fun z => sc3 x y z
  | .tupc l, _ => if sizeOk l.length then some (.tup (l.map .int)) else none
  | .f1 f a, ρ => (ev Φ a ρ).bind fun x => fn1 Φ f x
  | .f2 f a b, ρ => (ev Φ a ρ).bind fun x => (ev Φ b ρ).bind fun y => fn2 Φ f x y
  | .f3 f a b c, ρ => (ev Φ a ρ).bind fun x => (ev Φ b ρ).bind fun y => (ev Φ c ρ).bind fun z => fn3 Φ f x y z
  | .m0 m a, ρ => (ev Φ a ρ).bind fun x => meth0 m x
  | .m1 m a b, ρ => (ev Φ a ρ).bind fun x => (ev Φ b ρ).bind fun y => meth1 m x y
  | .comp _ fvs it none elt, ρ => (ev Φ it ρ).bind fun x => (items x).bind fun l => if sizeOk l.length = false then none else
      (collect (fun d => (ev Φ elt (d :: fvs.map fun i => (ρ[i]?).getD .undef)).bind fun y => (asSc y).map fun c => [c]) l).map .list
  | .comp _ fvs it (some cd) elt, ρ => (ev Φ it ρ).bind fun x => (items x).bind fun l => if sizeOk l.length = false then none else
      (collect (fun d => ((ev Φ cd (d :: fvs.map fun i => (ρ[i]?).getD .undef)).bind truthy).bind fun t =>
        if t then (ev Φ elt (d :: fvs.map fun i => (ρ[i]?).getD .undef)).bind fun y => (asSc y).map fun c => [c] else some []) l).map .list
  | .comp2 fvs it it2 none elt, ρ => (ev Φ it ρ).bind fun x => (items x).bind fun l => if sizeOk l.length = false then none else
      (collect (fun d => (ev Φ it2 (d :: .undef :: fvs.map fun i => (ρ[i]?).getD .undef)).bind fun x2 => (items x2).bind fun l2 => if sizeOk l2.length = false then none else
        collect (fun d2 => (ev Φ elt (d :: d2 :: fvs.map fun i => (ρ[i]?).getD .undef)).bind fun y => (asSc y).map fun c => [c]) l2) l).bind fun r => if sizeOk r.length then some (.list r) else none
  | .comp2 fvs it it2 (some cd) elt, ρ => (ev Φ it ρ).bind fun x => (items x).bind fun l => if sizeOk l.length = false then none else
      (collect (fun d => (ev Φ it2 (d :: .undef :: fvs.map fun i => (ρ[i]?).getD .undef)).bind fun x2 => (items x2).bind fun l2 => if sizeOk l2.length = false then none else
        collect (fun d2 => ((ev Φ cd (d :: d2 :: fvs.map fun i => (ρ[i]?).getD .undef)).bind truthy).bind fun t =>
          if t then (ev Φ elt (d :: d2 :: fvs.map fun i => (ρ[i]?).getD .undef)).bind fun y => (asSc y).map fun c => [c] else some []) l2) l).bind fun r => if sizeOk r.length then some (.list r) else none

section
variable {Φ : Fns} {ρ : List D}
theorem evq_c {v : Sc} : ev Φ (.c v) ρ = some (.sc v) := rfl
theorem evq_v {i : Nat} : ev Φ (.v i) ρ = (ρ[i]?).bind readable := rfl
theorem evq_g {i : GV} : ev Φ (.g i) ρ = some (gval i) := rfl
theorem evq_bin {o : BOp} {a b : X} : ev Φ (.bin o a b) ρ = (ev Φ a ρ).bind fun x => (ev Φ b ρ).bind fun y => binop o x y := rfl
theorem evq_neg {a : X} : ev Φ (.neg a) ρ = (ev Φ a ρ).bind fun x => x.int?.map fun i => .sc (.int (-i)) := rfl
theorem evq_cmp {o : COp} {a b : X} : ev Φ (.cmp o a b) ρ = (ev Φ a ρ).bind fun x => (ev Φ b ρ).bind fun y => (cmpop o x y).map fun b => .sc (.bool b) := rfl
theorem evq_ite {t a b : X} : ev Φ (.ite t a b) ρ = ((ev Φ t ρ).bind truthy).bind fun c => if c then ev Φ a ρ else ev Φ b ρ := rfl
theorem evq_and {a b : X} : ev Φ (.and a b) ρ = ((ev Φ a ρ).bind truthy).bind fun c => if c then ((ev Φ b ρ).bind truthy).map (fun d => .sc (.bool d)) else some (.sc (.bool false)) := rfl
theorem evq_not {a : X} : ev Φ (.not a) ρ = ((ev Φ a ρ).bind truthy).map fun c => .sc (.bool (!c)) := rfl
theorem evq_idx {a i : X} : ev Φ (.idx a i) ρ = (ev Φ a ρ).bind fun x => (ev Φ i ρ).bind fun y => index x y := rfl
theorem evq_slN {a : X} : ev Φ (.slN a) ρ = (ev Φ a ρ).bind fun x => slice x none none := rfl
theorem evq_slL {a lo : X} : ev Φ (.slL a lo) ρ = (ev Φ a ρ).bind fun x => (ev Φ lo ρ).bind fun y => slice x (some y) none := rfl
theorem evq_slU {a hi : X} : ev Φ (.slU a hi) ρ = (ev Φ a ρ).bind fun x => (ev Φ hi ρ).bind fun y => slice x none (some y) := rfl
theorem evq_slB {a lo hi : X} : ev Φ (.slB a lo hi) ρ = (ev Φ a ρ).bind fun x => (ev Φ lo ρ).bind fun y => (ev Φ hi ρ).bind fun z => slice x (some y) (some z) := rfl
theorem evq_l0  : ev Φ (.l0) ρ = some (.list []) := rfl
theorem evq_l1 {a : X} : ev Φ (.l1 a) ρ = (ev Φ a ρ).bind fun x => (asSc x).map fun c => .list [c] := rfl
theorem evq_l3 {a b c : X} : ev Φ (.l3 a b c) ρ = (ev Φ a ρ).bind fun x => (ev Φ b ρ).bind fun y => (ev Φ c ρ).bind fun z => sc3 x y z := rfl
theorem evq_tupc {l : List Int} : ev Φ (.tupc l) ρ = if sizeOk l.length then some (.tup (l.map .int)) else none := rfl
theorem evq_f1 {f : F1} {a : X} : ev Φ (.f1 f a) ρ = (ev Φ a ρ).bind fun x => fn1 Φ f x := rfl
theorem evq_f2 {f : F2} {a b : X} : ev Φ (.f2 f a b) ρ = (ev Φ a ρ).bind fun x => (ev Φ b ρ).bind fun y => fn2 Φ f x y := rfl
theorem evq_f3 {f : F3} {a b c : X} : ev Φ (.f3 f a b c) ρ = (ev Φ a ρ).bind fun x => (ev Φ b ρ).bind fun y => (ev Φ c ρ).bind fun z => fn3 Φ f x y z := rfl
theorem evq_m0 {m : M0} {a : X} : ev Φ (.m0 m a) ρ = (ev Φ a ρ).bind fun x => meth0 m x := rfl
theorem evq_m1 {m : M1} {a b : X} : ev Φ (.m1 m a b) ρ = (ev Φ a ρ).bind fun x => (ev Φ b ρ).bind fun y => meth1 m x y := rfl
theorem evq_comp0 {cl : Bool} {fvs : List Nat} {it elt : X} : ev Φ (.comp cl fvs it none elt) ρ = (ev Φ it ρ).bind fun x => (items x).bind fun l => if sizeOk l.length = false then none else
      (collect (fun d => (ev Φ elt (d :: fvs.map fun i => (ρ[i]?).getD .undef)).bind fun y => (asSc y).map fun c => [c]) l).map .list := rfl
theorem evq_comp1 {cl : Bool} {fvs : List Nat} {it cd elt : X} : ev Φ (.comp cl fvs it (some cd) elt) ρ = (ev Φ it ρ).bind fun x => (items x).bind fun l => if sizeOk l.length = false then none else
      (collect (fun d => ((ev Φ cd (d :: fvs.map fun i => (ρ[i]?).getD .undef)).bind truthy).bind fun t =>
        if t then (ev Φ elt (d :: fvs.map fun i => (ρ[i]?).getD .undef)).bind fun y => (asSc y).map fun c => [c] else some []) l).map .list := rfl
end
noncomputable def augSc (a b : Sc) : Option D := match a with
  | .int i => (scInt b).map fun j => .sc (.int (i + j))
  | .str s => (scStr b).bind fun t => if sizeOk (s.length + t.length) then some (.sc (.str (s ++ t))) else none
  | .none => none
  | .bool _ => none
  | .bytes _ => none
noncomputable def augop (x y : D) : Option D := (asSc x).bind fun a => (asSc y).bind fun b => augSc a b

inductive Fl where
  | next | brk | cont
  | ret (d : D)

noncomputable def freeze (d : D) : D := match d with
  | .own l => .list l
  | .ba l => .fba l
  | .undef => .undef
  | .sc c => .sc c
  | .list l => .list l
  | .tup l => .tup l
  | .rng a b c => .rng a b c
  | .fba l => .fba l
  | .bm i => .bm i

/-- a variable that holds the object under way -/
noncomputable def ownish (d : D) : Bool := match d with
  | .own _ => true
  | .ba _ => true
  | .bm _ => true
  | .undef => false
  | .sc _ => false
  | .list _ => false
  | .tup _ => false
  | .rng _ _ _ => false
  | .fba _ => false
noncomputable def clean (ρ : List D) : Bool := ρ.all fun d => !ownish d
noncomputable def freeAt (ρ : List D) (i : Nat) : Bool := match ρ[i]? with
  | some d => !ownish d
  | none => true
noncomputable def isSc (d : D) : Bool := match d with
  | .sc _ => true
  | .undef => false
  | .list _ => false
  | .tup _ => false
  | .rng _ _ _ => false
  | .own _ => false
  | .ba _ => false
  | .fba _ => false
  | .bm _ => false

/-- the turns of a for -/
noncomputable def forL (body : List D → Option (Fl × List D)) (i : Nat) : List D → List D → Option (Fl × List D)
  | [], ρ => some (.next, ρ)
  | d :: r, ρ => if freeAt ρ i = false then none else (body (ρ.set i d)).bind fun (f, ρ') => match f with
    | .next | .cont => forL body i r ρ'
    | .brk => some (.next, ρ')
    | .ret v => some (.ret v, ρ')
noncomputable def whileL (test : List D → Option Bool) (body : List D → Option (Fl × List D)) : Nat → List D → Option (Fl × List D)
  | 0, _ => none
  | n + 1, ρ => (test ρ).bind fun t => if t then (body ρ).bind fun (f, ρ') => (match f with
      | .next | .cont => whileL test body n ρ'
      | .brk => some (.next, ρ')
      | .ret v => some (.ret v, ρ')) else some (.next, ρ)

noncomputable def fuel : Nat := 200

noncomputable def andThen (p : Fl × List D) (k : List D → Option (Fl × List D)) : Option (Fl × List D) := match p.1 with
  | .next => k p.2
  | .brk => some p
  | .cont => some p
  | .ret _ => some p
noncomputable def ownAt (ρ : List D) (i : Nat) : Option (List Sc) := (ρ[i]?).bind D.own?
noncomputable def baAt (ρ : List D) (i : Nat) : Option (List UInt8) := (ρ[i]?).bind D.ba?
noncomputable def bmAt (ρ : List D) (i : Nat) : Option Nat := (ρ[i]?).bind D.bm?
theorem ownAt_some {ρ : List D} {i : Nat} {l : List Sc} (h : ownAt ρ i = some l) : ρ[i]? = some (.own l) := by
  obtain ⟨d, hd, h⟩ := Option.bind_eq_some_iff.mp h; rw [hd, D.own_some h]
theorem baAt_some {ρ : List D} {i : Nat} {l : List UInt8} (h : baAt ρ i = some l) : ρ[i]? = some (.ba l) := by
  obtain ⟨d, hd, h⟩ := Option.bind_eq_some_iff.mp h; rw [hd, D.ba_some h]
theorem bmAt_some {ρ : List D} {i j : Nat} (h : bmAt ρ i = some j) : ρ[i]? = some (.bm j) := by
  obtain ⟨d, hd, h⟩ := Option.bind_eq_some_iff.mp h; rw [hd, D.bm_some h]
noncomputable def exec (Φ : Fns) : S → List D → Option (Fl × List D)
  | .fail, _ => none
  | .skip, ρ => some (.next, ρ)
  | .seq a b, ρ => (exec Φ a ρ).bind fun p => andThen p (exec Φ b)
  | .asg i e, ρ => if freeAt ρ i then (ev Φ e ρ).map fun d => (.next, ρ.set i d) else none
  | .aug i e, ρ => ((ρ[i]?).bind readable).bind fun x => (ev Φ e ρ).bind fun y => (augop x y).map fun d => (.next, ρ.set i d)
  | .ifs t a b, ρ => ((ev Φ t ρ).bind truthy).bind fun c => if c then exec Φ a ρ else exec Φ b ρ
  | .for_ i it body, ρ => (ev Φ it ρ).bind fun x => (items x).bind fun l => if sizeOk l.length then forL (exec Φ body) i l ρ else none
  | .while_ t body, ρ => whileL (fun ρ => (ev Φ t ρ).bind truthy) (exec Φ body) fuel ρ
  | .ret e, ρ => (ev Φ e (ρ.map freeze)).bind fun d => if clean ρ || isSc d then some (.ret d, ρ) else none
  | .retOwn i, ρ => (ownAt ρ i).map fun l => (.ret (.list l), ρ)
  | .brk, ρ => some (.brk, ρ)
  | .cont, ρ => some (.cont, ρ)
  | .newOwn i, ρ => if clean ρ then some (.next, ρ.set i (.own [])) else none
  | .app i e, ρ => (ownAt ρ i).bind fun l => (ev Φ e ρ).bind fun y => (asSc y).bind fun c => if sizeOk l.length then some (.next, ρ.set i (.own (l ++ [c]))) else none
  | .ins0 i e, ρ => (ownAt ρ i).bind fun l => (ev Φ e ρ).bind fun y => (asSc y).bind fun c => if sizeOk l.length then some (.next, ρ.set i (.own (c :: l))) else none
  | .newBA i e, ρ => (ev Φ e ρ).bind fun y => y.int?.bind fun n => if 0 ≤ n ∧ n ≤ 100000 ∧ clean ρ = true then some (.next, ρ.set i (.ba (List.replicate n.toNat 0))) else none
  | .setBA i ix e, ρ => (baAt ρ i).bind fun l => (ev Φ e ρ).bind fun y => (ev Φ ix ρ).bind fun x => x.int?.bind fun j => y.int?.bind fun v =>
      if 0 ≤ j ∧ j < l.length ∧ 0 ≤ v ∧ v < 256 ∧ smallI j = true ∧ sizeOk l.length = true then some (.next, ρ.set i (.ba (l.set j.toNat v.toNat.toUInt8))) else none
  | .alias j i, ρ => (ownAt ρ i).bind fun _ => if i = j ∨ freeAt ρ j = false then none else some (.next, ρ.set j (.bm i))
  | .bmc j e, ρ => (bmAt ρ j).bind fun i => (ownAt ρ i).bind fun l => (ev Φ e ρ).bind fun y => (asSc y).bind fun c => if sizeOk l.length then some (.next, ρ.set i (.own (l ++ [c]))) else none

section
variable {Φ : Fns} {ρ : List D}
theorem exq_skip  : exec Φ (.skip) ρ = some (.next, ρ) := rfl
theorem exq_seq {a b : S} : exec Φ (.seq a b) ρ = (exec Φ a ρ).bind fun p => andThen p (exec Φ b) := rfl
theorem exq_asg {i : Nat} {e : X} : exec Φ (.asg i e) ρ = if freeAt ρ i then (ev Φ e ρ).map fun d => (.next, ρ.set i d) else none := rfl
theorem exq_aug {i : Nat} {e : X} : exec Φ (.aug i e) ρ = ((ρ[i]?).bind readable).bind fun x => (ev Φ e ρ).bind fun y => (augop x y).map fun d => (.next, ρ.set i d) := rfl
theorem exq_ifs {t : X} {a b : S} : exec Φ (.ifs t a b) ρ = ((ev Φ t ρ).bind truthy).bind fun c => if c then exec Φ a ρ else exec Φ b ρ := rfl
theorem exq_for_ {i : Nat} {it : X} {body : S} : exec Φ (.for_ i it body) ρ = (ev Φ it ρ).bind fun x => (items x).bind fun l => if sizeOk l.length then forL (exec Φ body) i l ρ else none := rfl
theorem exq_ret {e : X} : exec Φ (.ret e) ρ = (ev Φ e (ρ.map freeze)).bind fun d => if clean ρ || isSc d then some (.ret d, ρ) else none := rfl
theorem exq_retOwn {i : Nat} : exec Φ (.retOwn i) ρ = (ownAt ρ i).map fun l => (.ret (.list l), ρ) := rfl
theorem exq_brk  : exec Φ (.brk) ρ = some (.brk, ρ) := rfl
theorem exq_cont  : exec Φ (.cont) ρ = some (.cont, ρ) := rfl
theorem exq_newOwn {i : Nat} : exec Φ (.newOwn i) ρ = if clean ρ then some (.next, ρ.set i (.own [])) else none := rfl
theorem exq_app {i : Nat} {e : X} : exec Φ (.app i e) ρ = (ownAt ρ i).bind fun l => (ev Φ e ρ).bind fun y => (asSc y).bind fun c => if sizeOk l.length then some (.next, ρ.set i (.own (l ++ [c]))) else none := rfl
theorem exq_ins0 {i : Nat} {e : X} : exec Φ (.ins0 i e) ρ = (ownAt ρ i).bind fun l => (ev Φ e ρ).bind fun y => (asSc y).bind fun c => if sizeOk l.length then some (.next, ρ.set i (.own (c :: l))) else none := rfl
theorem exq_newBA {i : Nat} {e : X} : exec Φ (.newBA i e) ρ = (ev Φ e ρ).bind fun y => y.int?.bind fun n => if 0 ≤ n ∧ n ≤ 100000 ∧ clean ρ = true then some (.next, ρ.set i (.ba (List.replicate n.toNat 0))) else none := rfl
theorem exq_alias {j i : Nat} : exec Φ (.alias j i) ρ = (ownAt ρ i).bind fun _ => if i = j ∨ freeAt ρ j = false then none else some (.next, ρ.set j (.bm i)) := rfl
theorem exq_bmc {j : Nat} {e : X} : exec Φ (.bmc j e) ρ = (bmAt ρ j).bind fun i => (ownAt ρ i).bind fun l => (ev Φ e ρ).bind fun y => (asSc y).bind fun c => if sizeOk l.length then some (.next, ρ.set i (.own (l ++ [c]))) else none := rfl
theorem exq_setBA {i : Nat} {ix e : X} : exec Φ (.setBA i ix e) ρ = (baAt ρ i).bind fun l => (ev Φ e ρ).bind fun y => (ev Φ ix ρ).bind fun x => x.int?.bind fun j => y.int?.bind fun v =>
      if 0 ≤ j ∧ j < l.length ∧ 0 ≤ v ∧ v < 256 ∧ smallI j = true ∧ sizeOk l.length = true then some (.next, ρ.set i (.ba (l.set j.toNat v.toNat.toUInt8))) else none := rfl
end
noncomputable def runFn (Φ : Fns) (body : S) (n : Nat) (args : List D) : Option D := match exec Φ body (args ++ List.replicate n .undef) with
  | some (.ret d, _) => readable d
  | _ => none

end Mine

end
section
open PySem PySem.W PyProof.Rows
set_option Elab.async false
namespace Mine

noncomputable def idxOf (names : List Str) (x : Str) : Option Nat := names.findIdx? (· == x)
noncomputable def bopOf : Operator → Option BOp
  | .Add => some .add | .Sub => some .sub | .Mult => some .mul | .Mod => some .mod | .FloorDiv => some .fdiv | _ => none
noncomputable def copOf : CmpOp → Option COp
  | .Eq => some .eq | .NotEq => some .ne | .Lt => some .lt | .LtE => some .le | .Gt => some .gt | .GtE => some .ge | .In => some .isin | .NotIn => some .notin | _ => none
/-- the first of the list that bears the name -/
noncomputable def byName {α : Type} (f : α → Str) (x : Str) : List α → Option α
  | [] => none
  | k :: r => if x = f k then some k else byName f x r
theorem byName_some {α : Type} {f : α → Str} {x : Str} {k : α} : ∀ l : List α, byName f x l = some k → x = f k
  | [], h => nope h
  | k :: r, h => by
    obtain ⟨e, h⟩ | h := ite_or h
    · cases h; exact e
    · exact byName_some r h
noncomputable def f1Name (k : F1) : Str := match k with
  | .len => "len" | .sum => "sum" | .sorted => "sorted" | .range => "range" | .bytes => "bytes" | .parts => "_law_parts" | .hooks => "_law_hooks" | .decode => "decode"
noncomputable def f2Name (k : F2) : Str := match k with
  | .range => "range" | .encode => "body_encode" | .swap => "_byteswap"
noncomputable def f3Name (k : F3) : Str := match k with
  | .range => "range" | .moved => "_law_moved"
noncomputable def f1Of (x : Str) : Option F1 := byName f1Name x [.len, .sum, .sorted, .range, .bytes, .parts, .hooks, .decode]
noncomputable def f2Of (x : Str) : Option F2 := byName f2Name x [.range, .encode, .swap]
noncomputable def f3Of (x : Str) : Option F3 := byName f3Name x [.range, .moved]
noncomputable def gvOf (x : Str) : Option GV := if x = "CRLF" then some .crlf else if x = "hexdigits" then some .hexd else none
noncomputable def frees (sc : Scope) : List Str := (sc.names.filter (·.2 == .free)).map (·.1)
noncomputable def idxAll (names : List Str) : List Str → Option (List Nat)
  | [] => some []
  | x :: r => (idxOf names x).bind fun i => (idxAll names r).map (i :: ·)
/-- a scope that the rules serve: a function's; the comprehension's own names are these, local or (in the first alone) a cell; the others free or global -/
noncomputable def scopeOk (sc : Scope) (own : List Str) : Bool := sc.kind == .function && (sc.names.all fun p => sc.names.lookup p.1 == some p.2 && (match p.2 with
  | .local => own.contains p.1 || p.1 == (".0" : Str)
  | .cell => own.contains p.1
  | .free => !own.contains p.1 && !(p.1 == ("__classdict__" : Str))
  | _ => true)) && own.all fun x => !(x == ("__debug__" : Str))
/-- the free names of an inner scope are cells or free in the outer -/
noncomputable def frOk (gs : List (Str × NameKind)) (sc : Scope) : Bool := (frees sc).all fun y => gs.lookup y == some .cell || gs.lookup y == some .free
noncomputable def cellOk (sc : Scope) (x : Str) : Option Bool := match sc.names.lookup x with
  | some .local => some false
  | some .cell => some true
  | _ => none

/-- what the lookup of a name gives -/
abbrev Gs := List (Str × NameKind)
noncomputable def isG (gs : Gs) (x : Str) : Bool := gs.lookup x == some .globalImplicit
/-! tools: a look that may fail -/
noncomputable def onX {α : Type} (o : Option α) (k : α → X) : X := match o with
  | some a => k a
  | none => .fail
noncomputable def elX {α : Type} (o : Option α) (k : α → X) (e : X) : X := match o with
  | some a => k a
  | none => e
noncomputable def ifX (c : Bool) (a : X) : X := match c with
  | true => a
  | false => .fail
noncomputable def l0 {α : Type} (l : List α) : Option Unit := match l with
  | [] => some ()
  | _ :: _ => none
noncomputable def l1 {α : Type} (l : List α) : Option α := match l with
  | [] => none
  | a :: r => (l0 r).map fun _ => a
noncomputable def l2 {α : Type} (l : List α) : Option (α × α) := match l with
  | [] => none
  | a :: r => (l1 r).map fun b => (a, b)
noncomputable def l3 {α : Type} (l : List α) : Option (α × α × α) := match l with
  | [] => none
  | a :: r => (l2 r).map fun b => (a, b)
theorem l0_some {α : Type} {l : List α} {u : Unit} (h : l0 l = some u) : l = [] := by cases l with
  | nil => rfl
  | cons a l => exact nope h
theorem l1_some {α : Type} {l : List α} {a : α} (h : l1 l = some a) : l = [a] := by cases l with
  | nil => exact nope h
  | cons b l => obtain ⟨u, hu, e⟩ := Option.map_eq_some_iff.mp h; rw [l0_some hu, e]
theorem l2_some {α : Type} {l : List α} {a : α × α} (h : l2 l = some a) : l = [a.1, a.2] := by cases l with
  | nil => exact nope h
  | cons b l => obtain ⟨u, hu, e⟩ := Option.map_eq_some_iff.mp h; rw [l1_some hu, ← e]
theorem l3_some {α : Type} {l : List α} {a : α × α × α} (h : l3 l = some a) : l = [a.1, a.2.1, a.2.2] := by cases l with
  | nil => exact nope h
  | cons b l => obtain ⟨u, hu, e⟩ := Option.map_eq_some_iff.mp h; rw [l2_some hu, ← e]
set_option genInjectivity false in
set_option genSizeOf false in
inductive EVw where
  | name (a : Str) (b : Pos)
  | attr (a : Expr) (b : Str) (c : Pos)
  | call (a : Expr) (b : List Expr) (c : List Keyword) (d : Pos)
  | list (a : List Expr) (b : Pos)
  | sub (a : Expr) (b : Expr) (c : Pos)
  | slice (a : Option Expr) (b : Option Expr) (c : Option Expr) (d : Pos)
  | lit (a : Const) (b : Nat) (c : Pos)
  | other
noncomputable def viewE (e : Expr) : EVw := match e with
  | .Name a b => .name a b
  | .Attribute a b c => .attr a b c
  | .Call a b c d => .call a b c d
  | .List a b => .list a b
  | .Subscript a b c => .sub a b c
  | .Slice a b c d => .slice a b c d
  | .Constant a b c => .lit a b c
  | _ => .other
noncomputable def Back (e : Expr) (v : EVw) : Prop := match v with
  | .name a b => e = .Name a b
  | .attr a b c => e = .Attribute a b c
  | .call a b c d => e = .Call a b c d
  | .list a b => e = .List a b
  | .sub a b c => e = .Subscript a b c
  | .slice a b c d => e = .Slice a b c d
  | .lit a b c => e = .Constant a b c
  | .other => True
theorem view_back (e : Expr) : Back e (viewE e) := by cases e <;> first | exact rfl | exact trivial
noncomputable def EVw.name? (v : EVw) : Option (Str × Pos) := match v with
  | .name a b => some (a, b)
  | .attr _ _ _ => none
  | .call _ _ _ _ => none
  | .list _ _ => none
  | .sub _ _ _ => none
  | .slice _ _ _ _ => none
  | .lit _ _ _ => none
  | .other => none
noncomputable def asName (e : Expr) : Option (Str × Pos) := (viewE e).name?
theorem asName_some {e : Expr} {p : Str × Pos} (h : asName e = some p) : e = .Name p.1 p.2 := by
  have hb := view_back e
  unfold asName at h
  generalize viewE e = v at h hb
  cases v with
  | name a b => cases h; exact hb
  | _ => exact nope h
noncomputable def EVw.attr? (v : EVw) : Option (Expr × Str × Pos) := match v with
  | .name _ _ => none
  | .attr a b c => some (a, b, c)
  | .call _ _ _ _ => none
  | .list _ _ => none
  | .sub _ _ _ => none
  | .slice _ _ _ _ => none
  | .lit _ _ _ => none
  | .other => none
noncomputable def asAttr (e : Expr) : Option (Expr × Str × Pos) := (viewE e).attr?
theorem asAttr_some {e : Expr} {p : Expr × Str × Pos} (h : asAttr e = some p) : e = .Attribute p.1 p.2.1 p.2.2 := by
  have hb := view_back e
  unfold asAttr at h
  generalize viewE e = v at h hb
  cases v with
  | attr a b c => cases h; exact hb
  | _ => exact nope h
noncomputable def EVw.call? (v : EVw) : Option (Expr × List Expr × List Keyword × Pos) := match v with
  | .name _ _ => none
  | .attr _ _ _ => none
  | .call a b c d => some (a, b, c, d)
  | .list _ _ => none
  | .sub _ _ _ => none
  | .slice _ _ _ _ => none
  | .lit _ _ _ => none
  | .other => none
noncomputable def asCall (e : Expr) : Option (Expr × List Expr × List Keyword × Pos) := (viewE e).call?
theorem asCall_some {e : Expr} {p : Expr × List Expr × List Keyword × Pos} (h : asCall e = some p) : e = .Call p.1 p.2.1 p.2.2.1 p.2.2.2 := by
  have hb := view_back e
  unfold asCall at h
  generalize viewE e = v at h hb
  cases v with
  | call a b c d => cases h; exact hb
  | _ => exact nope h
noncomputable def EVw.list? (v : EVw) : Option (List Expr × Pos) := match v with
  | .name _ _ => none
  | .attr _ _ _ => none
  | .call _ _ _ _ => none
  | .list a b => some (a, b)
  | .sub _ _ _ => none
  | .slice _ _ _ _ => none
  | .lit _ _ _ => none
  | .other => none
noncomputable def asList (e : Expr) : Option (List Expr × Pos) := (viewE e).list?
theorem asList_some {e : Expr} {p : List Expr × Pos} (h : asList e = some p) : e = .List p.1 p.2 := by
  have hb := view_back e
  unfold asList at h
  generalize viewE e = v at h hb
  cases v with
  | list a b => cases h; exact hb
  | _ => exact nope h
noncomputable def EVw.sub? (v : EVw) : Option (Expr × Expr × Pos) := match v with
  | .name _ _ => none
  | .attr _ _ _ => none
  | .call _ _ _ _ => none
  | .list _ _ => none
  | .sub a b c => some (a, b, c)
  | .slice _ _ _ _ => none
  | .lit _ _ _ => none
  | .other => none
noncomputable def asSub (e : Expr) : Option (Expr × Expr × Pos) := (viewE e).sub?
theorem asSub_some {e : Expr} {p : Expr × Expr × Pos} (h : asSub e = some p) : e = .Subscript p.1 p.2.1 p.2.2 := by
  have hb := view_back e
  unfold asSub at h
  generalize viewE e = v at h hb
  cases v with
  | sub a b c => cases h; exact hb
  | _ => exact nope h
noncomputable def EVw.slice? (v : EVw) : Option (Option Expr × Option Expr × Option Expr × Pos) := match v with
  | .name _ _ => none
  | .attr _ _ _ => none
  | .call _ _ _ _ => none
  | .list _ _ => none
  | .sub _ _ _ => none
  | .slice a b c d => some (a, b, c, d)
  | .lit _ _ _ => none
  | .other => none
noncomputable def asSlice (e : Expr) : Option (Option Expr × Option Expr × Option Expr × Pos) := (viewE e).slice?
theorem asSlice_some {e : Expr} {p : Option Expr × Option Expr × Option Expr × Pos} (h : asSlice e = some p) : e = .Slice p.1 p.2.1 p.2.2.1 p.2.2.2 := by
  have hb := view_back e
  unfold asSlice at h
  generalize viewE e = v at h hb
  cases v with
  | slice a b c d => cases h; exact hb
  | _ => exact nope h
noncomputable def EVw.lit? (v : EVw) : Option (Const × Nat × Pos) := match v with
  | .name _ _ => none
  | .attr _ _ _ => none
  | .call _ _ _ _ => none
  | .list _ _ => none
  | .sub _ _ _ => none
  | .slice _ _ _ _ => none
  | .lit a b c => some (a, b, c)
  | .other => none
noncomputable def asLit (e : Expr) : Option (Const × Nat × Pos) := (viewE e).lit?
theorem asLit_some {e : Expr} {p : Const × Nat × Pos} (h : asLit e = some p) : e = .Constant p.1 p.2.1 p.2.2 := by
  have hb := view_back e
  unfold asLit at h
  generalize viewE e = v at h hb
  cases v with
  | lit a b c => cases h; exact hb
  | _ => exact nope h
noncomputable def cInt (c : Const) : Option Int := match c with
  | .int i => some i
  | _ => none
noncomputable def cStr (c : Const) : Option Str := match c with
  | .str i => some i
  | _ => none
theorem cInt_some {c : Const} {i : Int} (h : cInt c = some i) : c = .int i := by cases c with
  | int i => cases h; rfl
  | _ => exact nope h
theorem cStr_some {c : Const} {i : Str} (h : cStr c = some i) : c = .str i := by cases c with
  | str i => cases h; rfl
  | _ => exact nope h
noncomputable def asStr (e : Expr) : Option (Str × Nat × Pos) := (asLit e).bind fun q => (cStr q.1).map fun x => (x, q.2)
theorem asStr_some {e : Expr} {q : Str × Nat × Pos} (h : asStr e = some q) : e = .Constant (.str q.1) q.2.1 q.2.2 := by
  obtain ⟨p, hp, h⟩ := Option.bind_eq_some_iff.mp h
  obtain ⟨x, hx, rfl⟩ := Option.map_eq_some_iff.mp h
  rw [asLit_some hp, cStr_some hx]

noncomputable def trName (ns : List Str) (gs : Gs) (x : Str) : X := elX (idxOf ns x) .v (onX (gvOf x) fun g => ifX (isG gs x) (.g g))

/-- the methods, by name and written arguments -/
noncomputable def lit1 (args : List Expr) (a : Str) (k : M0) : Option M0 := (l1 args).bind fun e => (asStr e).bind fun q => if q.1 = a then some k else none
noncomputable def lit2 (args : List Expr) (a b : Str) (k : M0) : Option M0 := (l2 args).bind fun e => (asStr e.1).bind fun q => (asStr e.2).bind fun r => if q.1 = a ∧ r.1 = b then some k else none
noncomputable def nam1 (args : List Expr) (a : Str) (k : M0) : Option M0 := (l1 args).bind fun e => (asName e).bind fun q => if q.1 = a then some k else none
noncomputable def m0Name (k : M0) : Str := match k with
  | .splitlines => "splitlines" | .rstrip => "rstrip" | .replDot => "replace" | .encode => "encode" | .decode => "decode" | .splitNL => "split" | .countDot => "count" | .translate => "translate"
noncomputable def m0Args (k : M0) (args : List Expr) : Option M0 := match k with
  | .splitlines => (l0 args).map fun _ => .splitlines
  | .rstrip => (l0 args).map fun _ => .rstrip
  | .replDot => lit2 args "." "" .replDot
  | .encode => lit1 args "latin-1" .encode
  | .decode => lit1 args "latin-1" .decode
  | .splitNL => lit1 args "\n" .splitNL
  | .countDot => lit1 args "." .countDot
  | .translate => nam1 args "_QUOPRI_BODY_ENCODE_MAP" .translate
noncomputable def m0Of (x : Str) (args : List Expr) : Option M0 := (byName m0Name x [.splitlines, .rstrip, .replDot, .encode, .decode, .splitNL, .countDot, .translate]).bind fun k => m0Args k args
noncomputable def m1Of (x : Str) : Option M1 := if x = "join" then some .join else if x = "endswith" then some .endswith else none
set_option genInjectivity false in
set_option genSizeOf false in
inductive M0At : Str → List Expr → M0 → Prop
  | splitlines : M0At "splitlines" [] .splitlines
  | rstrip : M0At "rstrip" [] .rstrip
  | replace (k j : Nat) (p q : Pos) : M0At "replace" [.Constant (.str ".") k p, .Constant (.str "") j q] .replDot
  | encode (k : Nat) (p : Pos) : M0At "encode" [.Constant (.str "latin-1") k p] .encode
  | decode (k : Nat) (p : Pos) : M0At "decode" [.Constant (.str "latin-1") k p] .decode
  | splitNL (k : Nat) (p : Pos) : M0At "split" [.Constant (.str "\n") k p] .splitNL
  | count (k : Nat) (p : Pos) : M0At "count" [.Constant (.str ".") k p] .countDot
  | translate (p : Pos) : M0At "translate" [.Name "_QUOPRI_BODY_ENCODE_MAP" p] .translate
theorem lit1_some {args : List Expr} {a : Str} {k m : M0} (h : lit1 args a k = some m) : k = m ∧ ∃ j p, args = [.Constant (.str a) j p] := by
  obtain ⟨e, he, h⟩ := Option.bind_eq_some_iff.mp h
  obtain ⟨q, hq, h⟩ := Option.bind_eq_some_iff.mp h
  have h := ite_some h
  exact ⟨Option.some.inj h.2, q.2.1, q.2.2, by rw [l1_some he, asStr_some hq, h.1]⟩
theorem nam1_some {args : List Expr} {a : Str} {k m : M0} (h : nam1 args a k = some m) : k = m ∧ ∃ p, args = [.Name a p] := by
  obtain ⟨e, he, h⟩ := Option.bind_eq_some_iff.mp h
  obtain ⟨q, hq, h⟩ := Option.bind_eq_some_iff.mp h
  have h := ite_some h
  exact ⟨Option.some.inj h.2, q.2, by rw [l1_some he, asName_some hq, h.1]⟩
theorem lit2_some {args : List Expr} {a b : Str} {k m : M0} (h : lit2 args a b k = some m) : k = m ∧ ∃ j p j' p', args = [.Constant (.str a) j p, .Constant (.str b) j' p'] := by
  obtain ⟨e, he, h⟩ := Option.bind_eq_some_iff.mp h
  obtain ⟨q, hq, h⟩ := Option.bind_eq_some_iff.mp h
  obtain ⟨r, hr, h⟩ := Option.bind_eq_some_iff.mp h
  have h := ite_some h
  exact ⟨Option.some.inj h.2, q.2.1, q.2.2, r.2.1, r.2.2, by rw [l2_some he, asStr_some hq, asStr_some hr, h.1.1, h.1.2]⟩
theorem m0Args_some {k m : M0} {args : List Expr} (h : m0Args k args = some m) : M0At (m0Name k) args m := by
  cases k with
  | splitlines => obtain ⟨_, h0, rfl⟩ := Option.map_eq_some_iff.mp h; cases l0_some h0; exact .splitlines
  | rstrip => obtain ⟨_, h0, rfl⟩ := Option.map_eq_some_iff.mp h; cases l0_some h0; exact .rstrip
  | replDot => obtain ⟨rfl, j, p, k, q, rfl⟩ := lit2_some h; exact .replace ..
  | encode => obtain ⟨rfl, j, p, rfl⟩ := lit1_some h; exact .encode ..
  | decode => obtain ⟨rfl, j, p, rfl⟩ := lit1_some h; exact .decode ..
  | splitNL => obtain ⟨rfl, j, p, rfl⟩ := lit1_some h; exact .splitNL ..
  | countDot => obtain ⟨rfl, j, p, rfl⟩ := lit1_some h; exact .count ..
  | translate => obtain ⟨rfl, p, rfl⟩ := nam1_some h; exact .translate ..
theorem m0Of_some {x : Str} {args : List Expr} {m : M0} (h : m0Of x args = some m) : M0At x args m := by
  obtain ⟨k, hk, h⟩ := Option.bind_eq_some_iff.mp h
  rw [byName_some _ hk]
  exact m0Args_some h
theorem m1Of_some {x : Str} {m : M1} (h : m1Of x = some m) : (x = "join" ∧ m = .join) ∨ (x = "endswith" ∧ m = .endswith) := by
  obtain ⟨e, h⟩ | h := ite_or h
  · exact .inl ⟨e, (Option.some.inj h).symm⟩
  obtain ⟨e, h⟩ := ite_some h
  exact .inr ⟨e, (Option.some.inj h).symm⟩
noncomputable def intsOf (es : List Expr) : Option (List Int) := match es with
  | [] => some []
  | e :: r => (asLit e).bind fun q => (cInt q.1).bind fun i => (intsOf r).map (i :: ·)

noncomputable def trConst : Const → X
  | .int i => .c (.int i)
  | .str x => .c (.str x.cps.toList)
  | .bool b => .c (.bool b)
  | _ => .fail
noncomputable def trUn (o : UnaryOp) (a : X) : X := match o with
  | .USub => .neg a
  | _ => .fail
noncomputable def trCmp (f : Expr → X) (a : Expr) (os : List CmpOp) (bs : List Expr) : X := onX (l1 os) fun o => onX (copOf o) fun c => onX (l1 bs) fun b => .cmp c (f a) (f b)
noncomputable def trSlice (a : X) (lo hi : Option X) : X := match lo with
  | none => (match hi with
    | none => .slN a
    | some h => .slU a h)
  | some l => (match hi with
    | none => .slL a l
    | some h => .slB a l h)
noncomputable def no1 {α : Type} (o : Option α) : Option Unit := match o with
  | none => some ()
  | some _ => none
theorem no1_some {α : Type} {o : Option α} {u : Unit} (h : no1 o = some u) : o = none := by cases o with
  | none => rfl
  | some a => exact nope h
noncomputable def trSub (f : Expr → X) (a i : Expr) : X := elX (asSlice i) (fun q => onX (no1 q.2.2.1) fun _ => trSlice (f a) (q.1.map f) (q.2.1.map f)) (.idx (f a) (f i))
noncomputable def trList (f : Expr → X) (es : List Expr) : X := elX (l1 es) (fun a => .l1 (f a)) (elX (l3 es) (fun q => .l3 (f q.1) (f q.2.1) (f q.2.2)) (onX (l0 es) fun _ => .l0))
noncomputable def trCallN (f : Expr → X) (gs : Gs) (x : Str) (args : List Expr) : X := ifX (isG gs x)
  (elX (l1 args) (fun a => onX (f1Of x) fun k => .f1 k (f a)) (elX (l2 args) (fun q => onX (f2Of x) fun k => .f2 k (f q.1) (f q.2)) (onX (l3 args) fun q => onX (f3Of x) fun k => .f3 k (f q.1) (f q.2.1) (f q.2.2))))
noncomputable def trMeth (f : Expr → X) (gs : Gs) (o : Expr) (m : Str) (args : List Expr) (ok : Bool) : X := ifX ok
  (elX (m0Of m args) (fun k => ifX (!(decide (k = .translate)) || isG gs "_QUOPRI_BODY_ENCODE_MAP") (.m0 k (f o))) (onX (m1Of m) fun k => onX (l1 args) fun a => .m1 k (f o) (f a)))
noncomputable def trCall (f : Expr → X) (gs : Gs) (fn : Expr) (args : List Expr) (kws : List Keyword) (pos : Pos) : X := onX (l0 kws) fun _ =>
  elX (asName fn) (fun q => trCallN f gs q.1 args) (onX (asAttr fn) fun q => trMeth f gs q.1 q.2.1 args (q.2.2.endLine == pos.line))
noncomputable def trIfs (f : Expr → X) (l : List Expr) : Option (Option X) := match l with
  | [] => some none
  | c :: r => (l0 r).map fun _ => some (f c)
noncomputable def trComp1 (f t : List Str → Gs → Expr → X) (ns : List Str) (gs : Gs) (elt : Expr) (sc : Scope) (tg it : Expr) (ifs : List Expr) (a : Int) : X := ifX (decide (a = 0)) <| onX (asName tg) fun q =>
  onX (cellOk sc q.1) fun cl => onX (idxAll ns (frees sc)) fun fvs => ifX (scopeOk sc [q.1] && frOk gs sc) <| onX (trIfs (t (q.1 :: frees sc) sc.names) ifs) fun co => .comp cl fvs (f ns gs it) co (f (q.1 :: frees sc) sc.names elt)
noncomputable def trComp2 (f t : List Str → Gs → Expr → X) (ns : List Str) (gs : Gs) (elt : Expr) (sc : Scope) (tg it : Expr) (ifs : List Expr) (a : Int) (tg2 it2 : Expr) (ifs2 : List Expr) (a2 : Int) : X := ifX (decide (a = 0 ∧ a2 = 0)) <| onX (asName tg) fun q =>
  onX (asName tg2) fun q2 => onX (l0 ifs) fun _ => ifX (decide (cellOk sc q.1 = some false ∧ cellOk sc q2.1 = some false)) <| onX (idxAll ns (frees sc)) fun fvs => ifX (scopeOk sc [q.1, q2.1] && frOk gs sc && !(q.1 == q2.1)) <|
  onX (trIfs (t (q.1 :: q2.1 :: frees sc) sc.names) ifs2) fun co => .comp2 fvs (f ns gs it) (f (q.1 :: q2.1 :: frees sc) sc.names it2) co (f (q.1 :: q2.1 :: frees sc) sc.names elt)
noncomputable def trComp (f t : List Str → Gs → Expr → X) (ns : List Str) (gs : Gs) (elt : Expr) (sc : Scope) (gens : List Comprehension) : X := elX (l1 gens) (fun c => trComp1 f t ns gs elt sc c.target c.iter c.ifs c.is_async)
  (onX (l2 gens) fun q => trComp2 f t ns gs elt sc q.1.target q.1.iter q.1.ifs q.1.is_async q.2.target q.2.iter q.2.ifs q.2.is_async)
noncomputable def trBool (f : Expr → X) (op : BoolOp) (vs : List Expr) : X := match op with
  | .And => elX (l2 vs) (fun q => .and (f q.1) (f q.2)) (onX (l3 vs) fun q => .and (f q.1) (.and (f q.2.1) (f q.2.2)))
  | _ => .fail
noncomputable def trNot (f : Expr → X) (o : UnaryOp) (a : Expr) : X := match o with
  | .Not => .not (f a)
  | _ => .fail

mutual
noncomputable def tr : Nat → List Str → Gs → Expr → X
  | 0, _, _, _ => .fail
  | n + 1, ns, gs, e => match e with
    | .Constant c _ _ => trConst c
    | .Name x _ => trName ns gs x
    | .BinOp a o b _ => onX (bopOf o) fun o => .bin o (tr n ns gs a) (tr n ns gs b)
    | .UnaryOp o a _ => trUn o (tr n ns gs a)
    | .Compare a os bs _ => trCmp (tr n ns gs) a os bs
    | .IfExp t a b _ => .ite (trT n ns gs t) (tr n ns gs a) (tr n ns gs b)
    | .Subscript a i _ => trSub (tr n ns gs) a i
    | .List es _ => trList (tr n ns gs) es
    | .Tuple es _ _ => onX (intsOf es) .tupc
    | .Call f args kws pos => trCall (tr n ns gs) gs f args kws pos
    | .ListComp elt gens sc _ => trComp (tr n) (trT n) ns gs elt sc gens
    | _ => .fail
/-- in the place of a test -/
noncomputable def trT : Nat → List Str → Gs → Expr → X
  | 0, _, _, _ => .fail
  | n + 1, ns, gs, e => match e with
    | .UnaryOp o a _ => trNot (trT n ns gs) o a
    | .BoolOp op vs _ => trBool (trT n ns gs) op vs
    | .IfExp _ _ _ _ => .fail
    | e => tr n ns gs e
end

/-- own: the one name that holds a list (or bytearray) under way; al: the name of its bound append -/
structure Cfg where
  names : List Str
  gs : Gs
  own : Option Str := none
  al : Option Str := none

noncomputable def onS {α : Type} (o : Option α) (k : α → S) : S := match o with
  | some a => k a
  | none => .fail
noncomputable def elS {α : Type} (o : Option α) (k : α → S) (e : S) : S := match o with
  | some a => k a
  | none => e
noncomputable def ifS (c : Bool) (a : S) : S := match c with
  | true => a
  | false => .fail
noncomputable def eiS (c : Bool) (a b : S) : S := match c with
  | true => a
  | false => b
noncomputable def vIdx (cf : Cfg) (x : Str) (k : Nat → S) : S := onS (idxOf cf.names x) k

noncomputable def isOwn (cf : Cfg) (x : Str) : Bool := cf.own == some x
noncomputable def isAl (cf : Cfg) (x : Str) : Bool := cf.al == some x
noncomputable def asgOwn (f : Expr → X) (gs : Gs) (i : Nat) (e : Expr) : S := elS (asList e) (fun q => onS (l0 q.1) fun _ => .newOwn i)
  (onS (asCall e) fun q => onS (asName q.1) fun x => onS (l1 q.2.1) fun a => onS (l0 q.2.2.1) fun _ => ifS (decide (x.1 = "bytearray" ∧ isG gs x.1 = true)) (.newBA i (f a)))
noncomputable def asgAl (cf : Cfg) (i : Nat) (e : Expr) : S := onS (asAttr e) fun q => onS (asName q.1) fun y => ifS (decide (isOwn cf y.1 = true ∧ q.2.1 = "append")) (vIdx cf y.1 fun j => .alias i j)
noncomputable def trAsg (f : Expr → X) (cf : Cfg) (e t : Expr) : S := elS (asName t) (fun x => vIdx cf x.1 fun i => eiS (isOwn cf x.1) (asgOwn f cf.gs i e) (eiS (isAl cf x.1) (asgAl cf i e) (.asg i (f e))))
  (onS (asSub t) fun q => onS (asName q.1) fun x => ifS (isOwn cf x.1) (vIdx cf x.1 fun i => .setBA i (f q.2.1) (f e)))
noncomputable def trAug (f : Expr → X) (cf : Cfg) (op : Operator) (e t : Expr) : S := onS (asName t) fun x => ifS (decide (bopOf op = some .add)) (ifS (!(isOwn cf x.1 || isAl cf x.1)) (vIdx cf x.1 fun i => .aug i (f e)))
noncomputable def trFor (cf : Cfg) (it : X) (body : S) (t : Expr) : S := onS (asName t) fun x => ifS (!(isOwn cf x.1 || isAl cf x.1)) (vIdx cf x.1 fun i => .for_ i it body)
noncomputable def trDoM (f : Expr → X) (cf : Cfg) (m : Str) (args : List Expr) (x : Str) : S := ifS (isOwn cf x) (elS (l1 args) (fun a => ifS (decide (m = "append")) (vIdx cf x fun i => .app i (f a)))
  (onS (l2 args) fun q => onS (asLit q.1) fun z => onS (cInt z.1) fun k => ifS (decide (m = "insert" ∧ k = 0)) (vIdx cf x fun i => .ins0 i (f q.2))))
noncomputable def trDo (f : Expr → X) (cf : Cfg) (e : Expr) : S := onS (asCall e) fun q => onS (l0 q.2.2.1) fun _ =>
  elS (asAttr q.1) (fun r => ifS (r.2.2.endLine == q.2.2.2.line) (onS (asName r.1) fun x => trDoM f cf r.2.1 q.2.1 x.1))
    (onS (asName q.1) fun x => onS (l1 q.2.1) fun a => ifS (isAl cf x.1) (vIdx cf x.1 fun i => .bmc i (f a)))
noncomputable def trRet (f : Expr → X) (cf : Cfg) (e : Expr) : S := elS (asName e) (fun x => eiS (isOwn cf x.1) (vIdx cf x.1 .retOwn) (.ret (f e))) (.ret (f e))

mutual
noncomputable def trS : Nat → Cfg → Stmt → S
  | 0, _, _ => .fail
  | n + 1, cf, st => match st with
    | .Assign ts e _ => onS (l1 ts) fun t => trAsg (tr n cf.names cf.gs) cf e t
    | .AugAssign t op e _ => trAug (tr n cf.names cf.gs) cf op e t
    | .If t a b _ => .ifs (trT n cf.names cf.gs t) (trSs n cf a) (trSs n cf b)
    | .For t it body orelse _ => onS (l0 orelse) fun _ => trFor cf (tr n cf.names cf.gs it) (trSs n cf body) t
    | .While t body orelse _ => onS (l0 orelse) fun _ => .while_ (trT n cf.names cf.gs t) (trSs n cf body)
    | .Return e _ => onS e fun e => trRet (tr n cf.names cf.gs) cf e
    | .Break _ => .brk
    | .Continue _ => .cont
    | .Expr e _ => trDo (tr n cf.names cf.gs) cf e
    | _ => .fail
noncomputable def trSs : Nat → Cfg → List Stmt → S
  | 0, _, _ => .fail
  | n + 1, cf, l => match l with
    | [] => .skip
    | s :: r => .seq (trS n cf s) (trSs n cf r)
end

noncomputable def defAtI (i : Nat) : Option (Arguments × List Stmt × Scope) := match PySem.Challenge.pw_qu0029_01.main.body[i]? with
  | some (.FunctionDef _ a b _ _ _ sc _ _ _) => some (a, b, sc)
  | _ => none
noncomputable def paramsAt (i : Nat) : Arguments := ((defAtI i).map (·.1)).getD ⟨[], [], none, [], [], none, []⟩
noncomputable def scopeAt (i : Nat) : Scope := ((defAtI i).map (·.2.2)).getD ⟨.function, [], false, false, []⟩
noncomputable def parNames (i : Nat) : List Str := (paramsAt i).args.map (·.arg)
noncomputable def namesAt (i : Nat) : List Str := parNames i ++ (((scopeAt i).names.filter fun p => (p.2 == .local || p.2 == .cell) && !(parNames i).contains p.1).map (·.1))
noncomputable def gsAt (i : Nat) : Gs := (scopeAt i).names
noncomputable def bodyAt (i : Nat) : List Stmt := ((defAtI i).map (·.2.1)).getD []
end Mine

end
section
open PySem PySem.W PyProof.Rows
set_option Elab.async false
namespace Mine

noncomputable def toSc : Value → Option Sc
  | .none => some .none
  | .bool b => some (.bool b)
  | .int i _ => some (.int i)
  | .str x _ => some (.str x.cps.toList)
  | .bytes b _ => some (.bytes b.toList)
  | _ => none

theorem toSc_int {v : Value} {i : Int} (h : toSc v = some (.int i)) : ∃ t, v = .int i t := by
  cases v <;> simp_all [toSc]
theorem toSc_bool {v : Value} {i : Bool} (h : toSc v = some (.bool i)) : v = .bool i := by
  cases v <;> simp_all [toSc]
theorem toSc_str {v : Value} {l : List Nat} (h : toSc v = some (.str l)) : ∃ t, v = .str ⟨l.toArray⟩ t := by
  cases v <;> simp_all [toSc]
  subst h; rfl
theorem toSc_bytes {v : Value} {l : List UInt8} (h : toSc v = some (.bytes l)) : ∃ t, v = .bytes l.toArray t := by
  cases v <;> simp_all [toSc]
  subst h; rfl
theorem toSc_ref {a : Addr} {c : Sc} (h : toSc (.ref a) = some c) : False := by simp [toSc] at h

noncomputable def Are (vs : List Value) (l : List Sc) : Prop := vs.map toSc = l.map some
theorem Are.length {vs : List Value} {l : List Sc} (h : Are vs l) : vs.length = l.length := by
  have := congrArg List.length h
  simpa using this
theorem Are.nil : Are [] [] := rfl
theorem Are.cons {v : Value} {c : Sc} {vs : List Value} {l : List Sc} (h : toSc v = some c) (hs : Are vs l) : Are (v :: vs) (c :: l) := by
  unfold Are at *; simp [h, hs]
theorem Are.append {vs ws : List Value} {l m : List Sc} (h : Are vs l) (h' : Are ws m) : Are (vs ++ ws) (l ++ m) := by
  unfold Are at *; simp [h, h']
theorem Are.get {vs : List Value} {l : List Sc} (h : Are vs l) {i : Nat} {c : Sc} (hc : l[i]? = some c) : ∃ v, vs[i]? = some v ∧ toSc v = some c := by
  have e := congrArg (fun x => x[i]?) h
  simp only [List.getElem?_map, hc, Option.map_some] at e
  cases hv : vs[i]? with
  | none => rw [hv] at e; cases e
  | some v => rw [hv] at e; simp only [Option.map_some, Option.some.injEq] at e; exact ⟨v, rfl, e⟩
theorem Are.cut {vs : List Value} {l : List Sc} (h : Are vs l) (a b : Nat) : Are (cut vs a b) (cut l a b) := by
  unfold Are Mine.cut at *
  rw [List.map_drop, List.map_take, h, List.map_drop, List.map_take]
theorem Are.replicate {v : Value} {c : Sc} (h : toSc v = some c) (n : Nat) : Are (List.replicate n v) (List.replicate n c) := by
  unfold Are; simp [h]

/-- the value represents the datum -/
inductive Rp (own : Option Addr) (h : Heap) : Value → D → Prop
  | sc {v : Value} {c : Sc} : toSc v = some c → Rp own h v (.sc c)
  | list {a : Addr} {vs : List Value} {l : List Sc} : h.PlainList a vs.toArray → Are vs l → own ≠ some a → Rp own h (.ref a) (.list l)
  | tup {a : Addr} {vs : List Value} {l : List Sc} : IsTup h a vs.toArray → Are vs l → own ≠ some a → Rp own h (.ref a) (.tup l)
  | rng {r : Addr} {a b c : Int} {t u v : Tok} : IsRange h r a b c t u v → own ≠ some r → Rp own h (.ref r) (.rng a b c)
  | fba {a : Addr} {l : List UInt8} {n : Nat} : h.get? a = some { cls := .type "bytearray", data := .bytearray l.toArray n } → own ≠ some a → Rp own h (.ref a) (.fba l)

noncomputable def Ext (h h' : Heap) : Prop := ∀ b o, h.get? b = some o → h'.get? b = some o
theorem Ext.refl (h : Heap) : Ext h h := fun _ _ e => e
theorem Ext.trans {h h' h'' : Heap} (a : Ext h h') (b : Ext h' h'') : Ext h h'' := fun x o e => b x o (a x o e)
theorem Ext.push (h : Heap) (o : Obj) : Ext h (h.push o) := fun _ _ e => Heap.get?_push_of_some _ e

theorem Rp.ext {own : Option Addr} {h h' : Heap} {v : Value} {d : D} (r : Rp own h v d) (k : Ext h h') : Rp own h' v d := by
  cases r with
  | sc e => exact .sc e
  | list p a n => exact .list (p.at fun o e => k _ o e) a n
  | tup p a n => obtain ⟨o, ho, r⟩ := p; exact .tup ⟨o, k _ o ho, r⟩ a n
  | rng p n => exact .rng (k _ _ p) n
  | fba p n => exact .fba (k _ _ p) n
theorem Rp.int {own : Option Addr} {h : Heap} {v : Value} {i : Int} (r : Rp own h v (.sc (.int i))) : ∃ t, v = .int i t := by cases r with | sc e => exact toSc_int e
theorem Rp.str {own : Option Addr} {h : Heap} {v : Value} {l : List Nat} (r : Rp own h v (.sc (.str l))) : ∃ t, v = .str ⟨l.toArray⟩ t := by cases r with | sc e => exact toSc_str e
theorem Rp.bytes {own : Option Addr} {h : Heap} {v : Value} {l : List UInt8} (r : Rp own h v (.sc (.bytes l))) : ∃ t, v = .bytes l.toArray t := by cases r with | sc e => exact toSc_bytes e
theorem Rp.bool {own : Option Addr} {h : Heap} {v : Value} {b : Bool} (r : Rp own h v (.sc (.bool b))) : v = .bool b := by cases r with | sc e => exact toSc_bool e
theorem Rp.mkInt {own : Option Addr} {h : Heap} {i : Int} {t : Tok} : Rp own h (.int i t) (.sc (.int i)) := .sc rfl
theorem Rp.mkStr {own : Option Addr} {h : Heap} {l : List Nat} {t : Tok} : Rp own h (.str ⟨l.toArray⟩ t) (.sc (.str l)) := .sc (by simp [toSc])
theorem Rp.mkBytes {own : Option Addr} {h : Heap} {l : List UInt8} {t : Tok} : Rp own h (.bytes l.toArray t) (.sc (.bytes l)) := .sc (by simp [toSc])
theorem Rp.mkBool {own : Option Addr} {h : Heap} {b : Bool} : Rp own h (.bool b) (.sc (.bool b)) := .sc rfl

theorem keeps_refl (s : Shared) : Keeps s s := ⟨s.heap, s.toks, rfl, fun _ _ e => e⟩
theorem keeps_toks (s : Shared) (k : Nat) : Keeps s { s with toks := k } := ⟨s.heap, k, rfl, fun _ _ e => e⟩
theorem keeps_of {s : Shared} {h : Heap} {k : Nat} (e : Ext s.heap h) : Keeps s { s with heap := h, toks := k } := ⟨h, k, rfl, e⟩
theorem keeps_trans {a b c : Shared} (x : Keeps a b) (y : Keeps b c) : Keeps a c := by
  obtain ⟨h1, t1, rfl, e1⟩ := x
  obtain ⟨h2, t2, rfl, e2⟩ := y
  exact ⟨h2, t2, rfl, fun b o e => e2 b o (e1 b o e)⟩
theorem keeps_ext {a b : Shared} (x : Keeps a b) : Ext a.heap b.heap := by
  obtain ⟨h1, t1, rfl, e1⟩ := x
  exact e1

/-- the post of a pure step -/
noncomputable def Ps (own : Option Addr) (s : Shared) (d : D) (v : Value) (s' : Shared) : Prop := Rp own s'.heap v d ∧ Keeps s s'

theorem size_ok {n : Nat} (h : sizeOk n = true) : n ≤ 100000 := of_decide_eq_true h
theorem size_line {n : Nat} (h : n ≤ 100000) : n ≤ sizeLine := by rw [sizeLine_eq]; lia
theorem small_i {i : Int} (h : smallI i = true) : -1000000 ≤ i ∧ i ≤ 1000000 := by
  unfold smallI at h; simpa using h
theorem str_len (l : List Nat) : (Str.mk l.toArray).length = l.length := by simp [Str.length]
theorem str_app (a b : List Nat) : (Str.mk a.toArray) ++ (Str.mk b.toArray) = Str.mk (a ++ b).toArray := by
  apply PySem.Str.ext'
  rw [PySem.Str.cps_append]
  simp


noncomputable def AOk (A : Around) (n : Nat) : Prop := A.handled = none ∧ A.depth + n < recursionLimit ∧ A.units + 8 * n + 100 < cLine

noncomputable def toPy : Sc → PyData
  | .int i => PyData.int i
  | .str x => PyData.str ⟨x.toArray⟩
  | _ => PyData.none
theorem carried_of : ∀ {vs : List Value} {l : List Sc}, Are vs l → l.all plainIS = true → CarriedAll vs (l.map toPy)
  | [], [], _, _ => .nil
  | [], _ :: _, h, _ => by simp [Are] at h
  | _ :: _, [], h, _ => by simp [Are] at h
  | v :: vs, c :: l, h, hl => by
    simp only [Are, List.map_cons, List.cons.injEq] at h
    simp only [List.all_cons, Bool.and_eq_true] at hl
    have h1 := carried_of (vs := vs) (l := l) h.2 hl.2
    cases c with
    | int i => obtain ⟨t, rfl⟩ := toSc_int h.1; exact .cons (.int i t) h1
    | str x => obtain ⟨t, rfl⟩ := toSc_str h.1; exact .cons (.str _ t) h1
    | none => simp [plainIS] at hl
    | bool => simp [plainIS] at hl
    | bytes => simp [plainIS] at hl
theorem eqv_of : ∀ {a b : List Sc}, a.all plainIS = true → b.all plainIS = true → PyData.eqvAll (a.map toPy) (b.map toPy) = decide (a = b)
  | [], [], _, _ => by simp [PyData.eqvAll]
  | [], _ :: _, _, _ => by simp [PyData.eqvAll]
  | _ :: _, [], _, _ => by simp [PyData.eqvAll]
  | x :: a, y :: b, ha, hb => by
    simp only [List.all_cons, Bool.and_eq_true] at ha hb
    have ih := eqv_of ha.2 hb.2
    simp only [List.map_cons, PyData.eqvAll, ih]
    cases x <;> cases y <;> simp_all [plainIS, toPy, PyData.eqv]
    · rename_i i j; by_cases h : i = j <;> simp [h]
    · rename_i i j; by_cases h : i = j <;> simp [h]
theorem canLay_of : ∀ {a : List Sc}, a.all plainIS = true → PyData.canLayAll0 (a.map toPy) = true
  | [], _ => rfl
  | x :: a, h => by
    simp only [List.all_cons, Bool.and_eq_true] at h
    have := canLay_of (a := a) h.2
    have h1 := h.1
    cases x <;> simp_all [toPy, PyData.canLayAll0, PyData.canLay0, plainIS, PyData.strOk]
    intro y hy
    have := h.1 y hy
    lia
theorem depth_of : ∀ {a : List Sc}, PyData.depthAll (a.map toPy) = 0
  | [] => rfl
  | x :: a => by
    have := depth_of (a := a)
    cases x <;> simp_all [toPy, PyData.depthAll, PyData.depth]
theorem shaped_of {a : List Sc} (h : a.all plainIS = true) : SeqAt.shaped (.list (a.map toPy)) = true := by
  simp [SeqAt.shaped, PyData.canLay0, PyData.depth, canLay_of h, depth_of]

theorem fold_rep {α : Type} (c : α) : ∀ (n : Nat) (acc : Array α), List.foldl (fun x1 x2 => x1 ++ x2) acc (List.replicate n #[c]) = acc ++ (List.replicate n c).toArray
  | 0, acc => by simp
  | n + 1, acc => by
    rw [List.replicate_succ, List.foldl_cons, fold_rep c n, List.replicate_succ, Array.append_assoc]
    congr 1
    apply Array.ext'
    simp
theorem rep_one1 (v : Value) {n : Int} : List.foldl (fun x1 x2 => x1 ++ x2) #[] (List.replicate (if ([v].toArray).isEmpty = true then 0 else n.toNat) [v].toArray) = (List.replicate n.toNat v).toArray := by
  rw [if_neg (by simp)]
  exact (fold_rep v n.toNat #[]).trans (by simp)
theorem mul_one1 (c : Nat) {n : Int} (h : 0 ≤ n) : Txt.mul (Str.mk [c].toArray) n = Str.mk (List.replicate n.toNat c).toArray := by
  unfold Txt.mul
  by_cases h1 : n < 1
  · have : n = 0 := by lia
    subst this
    rfl
  · rw [if_neg h1]
    by_cases h2 : n = 1
    · subst h2; rfl
    · rw [if_neg (by simp [h2, Str.length])]
      have e := fold_rep c n.toNat #[]
      congr 1
      exact e.trans (by simp)

theorem beq_dec {α : Type} [BEq α] [LawfulBEq α] [DecidableEq α] (a b : α) : (a == b) = decide (a = b) := by
  by_cases h : a = b <;> simp [h]

section
variable {prog : Program} {w : World} {A : Around} {E : Value → Shared → Prop} {s : Shared} {own : Option Addr}

noncomputable def opOf : COp → CmpOp
  | .eq => .Eq | .ne => .NotEq | .lt => .Lt | .le => .LtE | .gt => .Gt | .ge => .GtE | .isin => .In | .notin => .NotIn
theorem copOf_inv {op : CmpOp} {o : COp} (h : copOf op = some o) : op = opOf o := by
  cases op <;> first | (cases h; rfl) | cases h
theorem one_inv {β : Type} {l : List Nat} {k : Nat → Option β} {b : β} (h : oneN l k = some b) : ∃ x, l = [x] ∧ k x = some b := by
  match l, h with
  | [x], h => exact ⟨x, rfl, h⟩
  | [], h => cases h
  | _ :: _ :: _, h => cases h
theorem oneS_inv {l : List Sc} {k : Sc → Option D} {b : D} (h : oneS l k = some b) : ∃ x, l = [x] ∧ k x = some b := by
  match l, h with
  | [x], h => exact ⟨x, rfl, h⟩
  | [], h => cases h
  | _ :: _ :: _, h => cases h
theorem cmpI_sound {o : COp} {a c : Int} {b : Bool} {t t' : Tok} (h : cmpI o a c = some b) : wpAny (model prog w) A (compareOp (opOf o) (.int a t) (.int c t')) (Ps own s (.sc (.bool b))) E s := by
  cases o
  · cases Option.some.inj h; exact eq_int ⟨.sc (by simp only [toSc, beq_dec]), keeps_refl s⟩
  · cases Option.some.inj h; exact ne_int ⟨.sc (by simp only [toSc, bne, beq_dec]), keeps_refl s⟩
  · cases Option.some.inj h; exact lt_int ⟨.sc rfl, keeps_refl s⟩
  · cases Option.some.inj h; exact le_int ⟨.sc rfl, keeps_refl s⟩
  · cases Option.some.inj h; exact gt_int ⟨.sc (by simp [toSc]), keeps_refl s⟩
  · cases Option.some.inj h; exact ge_int ⟨.sc (by simp [toSc]), keeps_refl s⟩
  · cases h
  · cases h
theorem gt_one {x y : Nat} {t t' : Tok} : wpAny (model prog w) A (compareOp .Gt (.str ⟨[x].toArray⟩ t) (.str ⟨[y].toArray⟩ t')) (Ps own s (.sc (.bool (decide (y < x))))) E s :=
  P.gt_str ⟨.sc (by
    simp only [toSc, Option.some.injEq, Sc.bool.injEq, decide_eq_decide]
    show List.Lex _ _ _ ↔ _
    constructor
    · intro h; cases h with
      | rel h => exact h
      | cons h => cases h
    · intro h; exact .rel h), keeps_refl s⟩
theorem in_one {x : Nat} {l : List Nat} {t t' : Tok} : wpAny (model prog w) A (compareOp .In (.str ⟨[x].toArray⟩ t) (.str ⟨l.toArray⟩ t')) (Ps own s (.sc (.bool (l.contains x)))) E s := by
  refine P.in_str ⟨.sc ?_, keeps_refl s⟩
  simp only [toSc, Option.some.injEq, Sc.bool.injEq]
  refine (StrLaws.found_one _ _).trans ?_
  simp [List.contains_eq_mem]
theorem notin_one {x : Nat} {l : List Nat} {t t' : Tok} : wpAny (model prog w) A (compareOp .NotIn (.str ⟨[x].toArray⟩ t) (.str ⟨l.toArray⟩ t')) (Ps own s (.sc (.bool (!l.contains x)))) E s := by
  refine P.notIn_str ⟨.sc ?_, keeps_refl s⟩
  simp only [toSc, Option.some.injEq, Sc.bool.injEq]
  refine (congrArg (!·) (StrLaws.found_one _ _)).trans ?_
  simp [List.contains_eq_mem]
theorem cmpS_sound {o : COp} {a c : List Nat} {b : Bool} {t t' : Tok} (h : cmpS o a c = some b) : wpAny (model prog w) A (compareOp (opOf o) (.str ⟨a.toArray⟩ t) (.str ⟨c.toArray⟩ t')) (Ps own s (.sc (.bool b))) E s := by
  cases o
  · cases Option.some.inj h; exact P.eq_str ⟨.sc (by simp only [toSc, beq_dec]), keeps_refl s⟩
  · cases Option.some.inj h; exact P.ne_str ⟨.sc (by simp only [toSc, bne, beq_dec]), keeps_refl s⟩
  · cases h
  · cases h
  · obtain ⟨x, rfl, h⟩ := one_inv (k := fun x => oneN c fun y => some (decide (y < x))) h
    obtain ⟨y, rfl, h⟩ := one_inv (k := fun y => some (decide (y < x))) h
    cases Option.some.inj h; exact gt_one
  · cases h
  · obtain ⟨x, rfl, h⟩ := one_inv (k := fun x => some (c.contains x)) h
    cases Option.some.inj h; exact in_one
  · obtain ⟨x, rfl, h⟩ := one_inv (k := fun x => some (!c.contains x)) h
    cases Option.some.inj h; exact notin_one
theorem cmpL_sound {o : COp} {a c : List Sc} {b : Bool} {v u : Value} (hu : A.units + 64 < cLine) (h : cmpL o a c = some b) (hx : Rp own s.heap v (.list a)) (hy : Rp own s.heap u (.list c)) :
    wpAny (model prog w) A (compareOp (opOf o) v u) (Ps own s (.sc (.bool b))) E s := by
  unfold cmpL at h
  split at h
  · rename_i hc
    obtain ⟨h1, h2⟩ := Bool.and_eq_true_iff.mp hc
    cases hx with
    | list p a n => cases hy with
      | list p' a' n' =>
        cases o
        · cases Option.some.inj h
          refine eq_dataH (reads_newData p.isList (carried_of a h1)) (reads_newData p'.isList (carried_of a' h2)) (shaped_of h1) (shaped_of h2) hu ⟨.sc ?_, keeps_refl s⟩
          simp only [toSc, PyData.eqv, eqv_of h1 h2]
        · cases Option.some.inj h
          refine ne_dataH (reads_newData p.isList (carried_of a h1)) (reads_newData p'.isList (carried_of a' h2)) (shaped_of h1) (shaped_of h2) hu ⟨.sc ?_, keeps_refl s⟩
          simp only [toSc, PyData.eqv, eqv_of h1 h2]
        all_goals cases h
  · cases h
theorem nof {α : Type} {z : α} (h : (none : Option α) = some z) : False := nomatch h
theorem cmpop_sound {o : COp} {op : CmpOp} {x y : D} {b : Bool} {v u : Value} (hA : AOk A 0) (ho : copOf op = some o) (h : cmpop o x y = some b) (hx : Rp own s.heap v x) (hy : Rp own s.heap u y) :
    wpAny (model prog w) A (compareOp op v u) (Ps own s (.sc (.bool b))) E s := by
  have hu : A.units + 64 < cLine := by have := hA.2.2; lia
  cases copOf_inv ho
  cases x with
  | sc a => cases y with
    | sc c => cases a with
      | int i => cases c with
        | int j => obtain ⟨t, rfl⟩ := hx.int; obtain ⟨t', rfl⟩ := hy.int; exact cmpI_sound h
        | _ => exact (nof h).elim
      | str i => cases c with
        | str j => obtain ⟨t, rfl⟩ := hx.str; obtain ⟨t', rfl⟩ := hy.str; exact cmpS_sound h
        | _ => exact (nof h).elim
      | _ => exact (nof h).elim
    | _ => exact (nof h).elim
  | list a => cases y with
    | list c => exact cmpL_sound hu h hx hy
    | _ => exact (nof h).elim
  | _ => exact (nof h).elim

theorem empty_is (l : List Nat) : ((l.length : Int) != 0) = !l.isEmpty := by cases l with
  | nil => rfl
  | cons a r => exact bne_iff_ne.mpr (Int.ofNat_ne_zero.mpr (Nat.succ_ne_zero _))
theorem truthy_sound {x : D} {b : Bool} {v : Value} (h : truthy x = some b) (hx : Rp own s.heap v x) : wpAny (model prog w) A (PySem.truthy v) (fun c s' => c = b ∧ Keeps s s') E s := by
  obtain ⟨c, hc, h⟩ := Option.bind_eq_some_iff.mp h
  cases asSc_is hc
  cases c with
  | bool c => cases h; rw [hx.bool]; exact wpAny_truthy_bool ⟨rfl, keeps_refl s⟩
  | int i => cases h; obtain ⟨t, rfl⟩ := hx.int; exact truthy_int ⟨by simp only [bne, beq_dec], keeps_refl s⟩
  | str l =>
    obtain ⟨hz, h⟩ := ite_some h
    cases h
    obtain ⟨t, rfl⟩ := hx.str
    have := size_ok hz
    exact P.truthy_str (by rw [str_len]; lia) ⟨by rw [str_len]; exact empty_is l, keeps_toks s _⟩
  | _ => exact nope h

theorem neg_sound {i : Int} {v : Value} (hx : Rp own s.heap v (.sc (.int i))) : wpAny (model prog w) A (unaryOp .USub v) (Ps own s (.sc (.int (-i)))) E s := by
  obtain ⟨t, rfl⟩ := hx.int
  exact neg_int ⟨.mkInt, keeps_toks s _⟩

noncomputable def bopBack : BOp → Operator
  | .add => .Add | .sub => .Sub | .mul => .Mult | .mod => .Mod | .fdiv => .FloorDiv
theorem bopOf_inv {op : Operator} {o : BOp} (h : bopOf op = some o) : op = bopBack o := by
  cases op <;> first | (cases h; rfl) | cases h
theorem isAdd_inv {o : BOp} (h : isAdd o = true) : o = .add := by cases o <;> first | rfl | cases h
theorem isMul_inv {o : BOp} (h : isMul o = true) : o = .mul := by cases o <;> first | rfl | cases h
theorem some_if {α : Type} {c : Bool} {a b : α} (h : (if c then some a else none) = some b) : c = true ∧ a = b := by
  cases c
  · cases h
  · exact ⟨rfl, Option.some.inj h⟩
theorem some_ifp {α : Type} {c : Prop} [Decidable c] {a : Option α} {b : α} (h : (if c then a else none) = some b) : c ∧ a = some b := by
  by_cases hc : c
  · rw [if_pos hc] at h; exact ⟨hc, h⟩
  · rw [if_neg hc] at h; cases h
theorem binI_sound {o : BOp} {a c : Int} {z : D} {t t' : Tok} (h : binI o a c = some z) : wpAny (model prog w) A (binaryOp (bopBack o) (.int a t) (.int c t')) (Ps own s z) E s := by
  cases o
  · cases Option.some.inj h; exact add_int ⟨.mkInt, keeps_toks s _⟩
  · cases Option.some.inj h; exact sub_int ⟨.mkInt, keeps_toks s _⟩
  · cases h
  · unfold binI at h
    dsimp only at h
    split at h
    · cases h
    · rename_i hb; cases h; exact mod_int hb ⟨.mkInt, keeps_toks s _⟩
  · have h : (if 0 < c ∧ c ≤ 1000000 then some (D.sc (.int (a.fdiv c))) else none) = some z := h
    obtain ⟨hb, h⟩ := some_ifp h
    cases Option.some.inj h
    exact floordiv_int (by lia) ⟨.mkInt, keeps_toks s _⟩ (.inl (PyProof.noPylong_small (by lia)))
theorem mulS_sound {o : BOp} {l : List Nat} {n : Int} {z : D} {t t' : Tok} (h : mulS o l n = some z) : wpAny (model prog w) A (binaryOp (bopBack o) (.str ⟨l.toArray⟩ t) (.int n t')) (Ps own s z) E s := by
  unfold mulS at h
  obtain ⟨⟨ho, h0, h1⟩, h2⟩ := some_ifp h
  clear h
  cases isMul_inv ho
  obtain ⟨c, rfl, h⟩ := one_inv h2
  cases Option.some.inj h
  have hlen : (Str.mk [c].toArray).length = 1 := rfl
  refine SB.mul ⟨by simp; lia, fun h2 _ => ?_, fun _ _ => ?_⟩ fun t' k => ⟨?_, keeps_toks s _⟩
  · rw [hlen]
    have : (1 : Int) ≤ (2 ^ 63 - 1) / n := Int.le_ediv_of_mul_le (by lia) (by lia)
    simpa using this
  · rw [hlen]; unfold Builtin.Str.tooLong; rw [sizeLine_eq]; exact decide_eq_false (by lia)
  · rw [mul_one1 c h0]; exact .mkStr
theorem addL_sound {a c : List Sc} {v u : Value} (hfresh : own ≠ some s.heap.objs.size) (hz : sizeOk (a.length + c.length) = true) (hx : Rp own s.heap v (.list a)) (hy : Rp own s.heap u (.list c)) :
    wpAny (model prog w) A (binaryOp .Add v u) (Ps own s (.list (a ++ c))) E s := by
  have hz := size_ok hz
  cases hx with
  | list p a n => cases hy with
    | list p' a' n' =>
      rename_i a1 vs1 a2 vs2
      obtain ⟨n1, p⟩ := p
      obtain ⟨n2, p'⟩ := p'
      have e : vs1.toArray ++ vs2.toArray = (vs1 ++ vs2).toArray := List.append_toArray _ _
      refine concat_meets ⟨_, p, rfl⟩ ⟨_, p', rfl⟩ noFill_list_add seq_list_add PySem.F.slot_list_add PySem.F.entry_list_add (PySem.F.args_list_add_2 _ _) (list_addW a1 a2 vs1.toArray vs2.toArray n1 n2 none none #[] #[] (by simp [a.length, a'.length]; exact size_line hz)) ⟨p, p', ?_⟩
      rw [e]
      exact ⟨.list ⟨0, Heap.get?_push_size _ rfl⟩ (a.append a') hfresh, ⟨_, _, rfl, Ext.push _ _⟩⟩
theorem mulL_sound {x : Sc} {n : Int} {v : Value} {t' : Tok} (hfresh : own ≠ some s.heap.objs.size) (h0 : 0 ≤ n) (h1 : n ≤ 100000) (hx : Rp own s.heap v (.list [x])) :
    wpAny (model prog w) A (binaryOp .Mult v (.int n t')) (Ps own s (.list (List.replicate n.toNat x))) E s := by
  cases hx with
  | list p a n =>
    rename_i n' a1 vs1
    obtain ⟨n1, p⟩ := p
    obtain ⟨v1, rfl, hv⟩ : ∃ v1, vs1 = [v1] ∧ toSc v1 = some x := by
      cases vs1 with
      | nil => simp [Are] at a
      | cons v1 r => cases r with
        | nil => simp [Are] at a; exact ⟨v1, rfl, a⟩
        | cons => simp [Are] at a
    refine wpAny_binaryOp_repeat_ref (T := "list") (U := "int") (by decide) ⟨_, p, rfl⟩ (fun s' => typeIs_int s' _ _) noFill_list_mul F.fills_int_mul F.slot_int_rmul repeat_list F.slot_int_index.lookup
      (call_meets F.slot_int_rmul (typeIs_int s _ _) F.entry_int_rmul (F.args_int_rmul_2 _ _) (int___rmul___int_list _ _ a1 _ n1)
        ⟨p, rfl, ⟨_, p, rfl⟩, call_meets F.slot_list_mul ⟨_, p, rfl⟩ F.entry_list_mul (F.args_list_mul_2 _ _)
          (AutoListH.list___mul___list_int_3 a1 _ n1 _ _ (by simp [Builtin.List.listFitsIndex]; lia) (by simp; lia) (by simp [Builtin.List.listTooLong, sizeLine]; lia))
          ⟨p, ?_⟩⟩)
    rw [rep_one1 v1]
    exact ⟨.list ⟨0, Heap.get?_push_size _ rfl⟩ (Are.replicate hv _) hfresh, ⟨_, _, rfl, Ext.push _ _⟩⟩
set_option maxHeartbeats 1000000 in
theorem binop_sound {o : BOp} {op : Operator} {x y z : D} {v u : Value} (hownd : ∀ a, own = some a → a < s.heap.objs.size) (ho : bopOf op = some o) (h : binop o x y = some z) (hx : Rp own s.heap v x) (hy : Rp own s.heap u y) :
    wpAny (model prog w) A (binaryOp op v u) (Ps own s z) E s := by
  have hfresh : own ≠ some s.heap.objs.size := fun e => absurd (hownd _ e) (Nat.lt_irrefl _)
  cases bopOf_inv ho
  cases x with
  | sc a => cases y with
    | sc c => cases a with
      | int i => cases c with
        | int j => obtain ⟨t, rfl⟩ := hx.int; obtain ⟨t', rfl⟩ := hy.int; exact binI_sound h
        | _ => exact (nof h).elim
      | str i => cases c with
        | str j =>
          obtain ⟨t, rfl⟩ := hx.str; obtain ⟨t', rfl⟩ := hy.str
          have h : binS o i j = some z := h
          unfold binS at h
          obtain ⟨hz, rfl⟩ := some_if h
          obtain ⟨ho, hz⟩ := Bool.and_eq_true_iff.mp hz
          cases isAdd_inv ho
          refine add_str (fun t' tk => ⟨?_, keeps_toks s _⟩) (by rw [str_len, str_len]; exact size_line (size_ok hz))
          rw [str_app]; exact .mkStr
        | int n => obtain ⟨t, rfl⟩ := hx.str; obtain ⟨t', rfl⟩ := hy.int; exact mulS_sound h
        | _ => exact (nof h).elim
      | bytes i => cases c with
        | bytes j =>
          obtain ⟨t, rfl⟩ := hx.bytes; obtain ⟨t', rfl⟩ := hy.bytes
          have h : binB o i j = some z := h
          unfold binB at h
          obtain ⟨hz, rfl⟩ := some_if h
          obtain ⟨ho, hz⟩ := Bool.and_eq_true_iff.mp hz
          cases isAdd_inv ho
          have := size_ok hz
          refine KBy.add_bytes (by simp; lia) (fun t' tk => ⟨?_, keeps_toks s _⟩)
          rw [List.append_toArray]; exact .mkBytes
        | _ => exact (nof h).elim
      | _ => exact (nof h).elim
    | _ => exact (nof h).elim
  | list a => cases y with
    | list c =>
      have h : binLL o a c = some z := h
      unfold binLL at h
      obtain ⟨hz, rfl⟩ := some_if h
      obtain ⟨ho, hz⟩ := Bool.and_eq_true_iff.mp hz
      cases isAdd_inv ho
      exact addL_sound hfresh hz hx hy
    | sc c => cases c with
      | int n =>
        obtain ⟨t', rfl⟩ := hy.int
        have hm : mulL o a n = some z := h
        clear h
        unfold mulL at hm
        obtain ⟨⟨ho, h0, h1⟩, h2⟩ := some_ifp hm
        clear hm
        cases isMul_inv ho
        obtain ⟨x, rfl, h⟩ := oneS_inv h2
        cases Option.some.inj h
        exact mulL_sound hfresh h0 h1 hx
      | _ => exact (nof h).elim
    | _ => exact (nof h).elim
  | _ => exact (nof h).elim
end
end Mine

end
section
open PySem PySem.W PyProof.Rows
set_option Elab.async false
namespace Mine

theorem place_seq (i : Int) (n : Nat) : seqIndex? i n = place i n := by
  unfold seqIndex? place
  by_cases h : 0 ≤ i
  · rw [if_pos h]
    have : ¬ i < 0 := by lia
    simp only [this, if_false, h, decide_true, Bool.true_and, decide_eq_true_eq]
  · rw [if_neg h]
    have : i < 0 := by lia
    simp only [this, if_true, Bool.and_eq_true, decide_eq_true_eq]
    by_cases h2 : -(n : Int) ≤ i
    · rw [if_pos h2, if_pos (by lia)]
    · rw [if_neg h2, if_neg (by lia)]
theorem bnd_clip (i : Int) (n : Nat) : clipAt n i = bnd i n := by
  unfold clipAt bnd
  by_cases h : 0 ≤ i
  · rw [if_pos h, if_neg (by lia)]; lia
  · rw [if_neg h, if_pos (by lia)]; lia
theorem cut_eq {α : Type} (l : List α) (a b : Nat) : cut l a b = (l.drop a).take (b - a) := by
  unfold cut; rw [List.drop_take]

/-- the datum of a slice's bound -/
inductive Pt : Value → Option D → Prop
  | none : Pt .none none
  | int (i : Int) (t : Tok) : Pt (.int i t) (some (.sc (.int i)))
noncomputable def ptI : Option D → Option Int
  | some (.sc (.int i)) => some i
  | _ => none
theorem Pt.isPart {v : Value} {o : Option D} (h : Pt v o) : IsPart v (ptI o) := by cases h; exact .none; exact .int _ _
theorem Pt.part {v : Value} {o : Option D} (h : Pt v o) : ∃ p : Option (Int × Tok), v = partValue p ∧ p.map (·.1) = ptI o := by
  cases h
  · exact ⟨Option.none, rfl, rfl⟩
  · rename_i i t; exact ⟨some (i, t), rfl, rfl⟩

noncomputable def loN (o : Option D) (n : Nat) : Nat := (ptI o).elim 0 (bnd · n)
noncomputable def hiN (o : Option D) (n : Nat) : Nat := (ptI o).elim n (bnd · n)
theorem lim_some {o : Option D} {a : Option Int} (h : lim o = some a) : a = ptI o := by
  cases o with
  | none => exact (Option.some.inj h).symm
  | some d =>
    obtain ⟨i, hi, h⟩ := Option.bind_eq_some_iff.mp h
    rw [D.int_some hi, ← Option.some.inj (ite_some h).2]
    rfl
theorem lo_elim (o : Option Int) (n : Nat) : loI o n = o.elim 0 (bnd · n) := by cases o <;> rfl
theorem hi_elim (o : Option Int) (n : Nat) : hiI o n = o.elim n (bnd · n) := by cases o <;> rfl
theorem slice_go {n : Nat} {lo hi : Option D} {k : Nat → Nat → D} {z : D} (h : sliceGo n lo hi k = some z) : n ≤ 100000 ∧ z = k (loN lo n) (hiN hi n) := by
  obtain ⟨hz, h⟩ := ite_none h
  obtain ⟨a, ha, h⟩ := Option.bind_eq_some_iff.mp h
  obtain ⟨b, hb, h⟩ := Option.bind_eq_some_iff.mp h
  refine ⟨size_ok (Bool.not_eq_false _ ▸ hz), ?_⟩
  rw [← Option.some.inj h, lo_elim, hi_elim, lim_some ha, lim_some hb]
  rfl

theorem elim_lo (o : Option D) (n : Nat) : (ptI o).elim 0 (clipAt n) = loN o n := by
  unfold loN; cases ptI o <;> simp [bnd_clip]
theorem elim_hi (o : Option D) (n : Nat) : (ptI o).elim n (clipAt n) = hiN o n := by
  unfold hiN; cases ptI o <;> simp [bnd_clip]
theorem pick_list {α : Type} (l : List α) (lo hi : Option D) : (sliceRange (sliceBounds (ptI lo) (ptI hi) none l.length).1 (sliceBounds (ptI lo) (ptI hi) none l.length).2.1 (sliceBounds (ptI lo) (ptI hi) none l.length).2.2).filterMap (l.toArray[·]?) = cut l (loN lo l.length) (hiN hi l.length) := by
  rw [sliceBounds_plain]
  simp only [sliceRange_one, pick_run, elim_lo, elim_hi, cut_eq]
theorem strSlice_eq (lo hi : Option Int) (n : Nat) : Builtin.Str.strSliceIndices lo hi 1 n = sliceRange (sliceBounds lo hi none n).1 (sliceBounds lo hi none n).2.1 (sliceBounds lo hi none n).2.2 := by
  cases lo <;> cases hi <;> rfl
theorem cut_full {α : Type} (l : List α) (a b : Nat) (h : (cut l a b).length = l.length) : cut l a b = l := by
  unfold cut at *
  have h1 : ((l.take b).drop a).length = l.length := h
  rw [List.length_drop, List.length_take] at h1
  cases l with
  | nil => simp
  | cons x r =>
    simp only [List.length_cons] at h1
    have ha : a = 0 := by lia
    subst ha
    rw [List.drop_zero, List.take_of_length_le (by simp; lia)]
theorem sliceRange_cut (l : List Nat) (lo hi : Option D) : (sliceRange (sliceBounds (ptI lo) (ptI hi) none l.length).1 (sliceBounds (ptI lo) (ptI hi) none l.length).2.1 (sliceBounds (ptI lo) (ptI hi) none l.length).2.2).length = hiN hi l.length - loN lo l.length := by
  rw [sliceBounds_plain]
  simp only [sliceRange_one, List.length_map, List.length_range, elim_lo, elim_hi]
theorem hiN_le (o : Option D) (n : Nat) : hiN o n ≤ n := by
  unfold hiN
  cases ptI o with
  | none => simp
  | some i => simp only [Option.elim]; unfold bnd; split <;> lia

section
variable {prog : Program} {w : World} {A : Around} {E : Value → Shared → Prop} {s : Shared} {own : Option Addr}

/-- an item or a slice is had by the type's own getitem -/
noncomputable def Gets (prog : Program) (w : World) (A : Around) (E : Value → Shared → Prop) (v u : Value) (Q : Value → Shared → Prop) (s : Shared) : Prop :=
  ∃ T id, s.TypeIs v T ∧ typeLookup (.type T) "__getitem__" = pure (some (.builtin id)) ∧ wpAny (model prog w) A (getItem v u) Q E s

section
variable {z : D} {v u : Value} {i : Int}
theorem idx_list {l : List Sc} (h : idxL l i = some z) (hx : Rp own s.heap v (.list l)) (hy : Rp own s.heap u (.sc (.int i))) : Gets prog w A E v u (Ps own s z) s := by
  obtain ⟨hc, h⟩ := ite_some h
  obtain ⟨c, h1, rfl⟩ := Option.map_eq_some_iff.mp h
  obtain ⟨t, rfl⟩ := hy.int
  have := small_i hc.2
  cases hx with
  | list p a n =>
    obtain ⟨v, hv, hs⟩ := a.get h1
    exact ⟨"list", _, p.isList.typeIs, slot_list_getitem.lookup, wpAny_getItem_list p.isList hc.1 (by lia) (by simpa using hv) ⟨.sc hs, keeps_refl s⟩⟩
theorem idx_tup {l : List Sc} (h : idxL l i = some z) (hx : Rp own s.heap v (.tup l)) (hy : Rp own s.heap u (.sc (.int i))) : Gets prog w A E v u (Ps own s z) s := by
  obtain ⟨hc, h⟩ := ite_some h
  obtain ⟨c, h1, rfl⟩ := Option.map_eq_some_iff.mp h
  obtain ⟨t, rfl⟩ := hy.int
  have := small_i hc.2
  cases hx with
  | tup p a n =>
    obtain ⟨v, hv, hs⟩ := a.get h1
    obtain ⟨hlt, _⟩ := List.getElem?_eq_some_iff.mp hv
    refine ⟨"tuple", _, p.typeIs, slot_tuple_getitem.lookup, getItem_tuple p (by lia) (by lia) (j := i.toNat) ?_ (by simpa using hv) ⟨.sc hs, keeps_refl s⟩⟩
    rw [place_seq]
    unfold place
    rw [if_pos hc.1, if_pos (by rw [List.size_toArray]; lia)]
theorem idx_str {l : List Nat} (h : idxS (.str l) i = some z) (hx : Rp own s.heap v (.sc (.str l))) (hy : Rp own s.heap u (.sc (.int i))) : Gets prog w A E v u (Ps own s z) s := by
  obtain ⟨hc, h⟩ := ite_some h
  obtain ⟨j, h1, h2⟩ := Option.bind_eq_some_iff.mp h
  obtain ⟨c, h3, rfl⟩ := Option.map_eq_some_iff.mp h2
  obtain ⟨t, rfl⟩ := hx.str
  obtain ⟨t', rfl⟩ := hy.int
  have := small_i hc
  refine ⟨"str", _, typeIs_str _ _ _, F.slot_str_getitem.lookup, getItem_str (c := c) (by simp; lia) ?_ ⟨.sc (by simp [toSc]), keeps_toks s _⟩⟩
  rw [str_len, place_seq, h1]
  simpa using h3
theorem idx_bytes {l : List UInt8} (h : idxS (.bytes l) i = some z) (hx : Rp own s.heap v (.sc (.bytes l))) (hy : Rp own s.heap u (.sc (.int i))) : Gets prog w A E v u (Ps own s z) s := by
  obtain ⟨hc, h⟩ := ite_some h
  obtain ⟨c, h1, rfl⟩ := Option.map_eq_some_iff.mp h
  obtain ⟨t, rfl⟩ := hx.bytes
  obtain ⟨t', rfl⟩ := hy.int
  have := size_ok hc.2.2
  obtain ⟨hlt, _⟩ := List.getElem?_eq_some_iff.mp h1
  refine ⟨"bytes", _, typeIs_bytes _ _ _, FB.slot_bytes_getitem.lookup, getItem_bytes (by lia) hc.1 (by lia) ⟨?_, keeps_toks s _⟩⟩
  rw [List.getD_eq_getElem?_getD, h1]
  exact .mkInt
end
theorem index_sound {x y z : D} {v u : Value} (h : index x y = some z) (hx : Rp own s.heap v x) (hy : Rp own s.heap u y) : Gets prog w A E v u (Ps own s z) s := by
  obtain ⟨i, hi, h⟩ := Option.bind_eq_some_iff.mp h
  cases D.int_some hi
  cases x with
  | list l => exact idx_list h hx hy
  | tup l => exact idx_tup h hx hy
  | sc c => cases c with
    | str l => exact idx_str h hx hy
    | bytes l => exact idx_bytes h hx hy
    | _ => exact nope h
  | _ => exact nope h

section
variable {z : D} {lo hi : Option D} {v l u : Value} {a : Addr}
theorem slice_list {xs : List Sc} (hfresh : own ≠ some s.heap.objs.size) (h : sliceGo xs.length lo hi (fun a b => .list (cut xs a b)) = some z) (hx : Rp own s.heap v (.list xs)) (hl : Pt l lo) (hu : Pt u hi) (ha : s.heap.IsSliceOf a l u .none) : Gets prog w A E v (.ref a) (Ps own s z) s := by
  obtain ⟨hz, rfl⟩ := slice_go h
  cases hx with
  | list p ar n =>
    rename_i b vs
    refine ⟨"list", _, p.isList.typeIs, slot_list_getitem.lookup, wpAny_getItem_list_slice p.isList ha hl.isPart hu.isPart .none (by simp) ?_ (by rw [List.size_toArray, ar.length]; exact size_line hz)⟩
    refine ⟨.list ⟨0, ?_⟩ (ar.cut _ _) hfresh, ⟨_, _, rfl, Ext.push _ _⟩⟩
    rw [Heap.get?_push_size _ rfl]
    unfold slicePick
    have := pick_list vs lo hi
    simp only [List.size_toArray]
    rw [this, ar.length]
theorem cutS_len (xs : List Nat) (a b : Nat) : (cut xs a b).length ≤ xs.length := by unfold cut; rw [List.length_drop, List.length_take]; lia
theorem sliceS_sound {xs : List Nat} (h : sliceGo xs.length lo hi (fun a b => .sc (.str (cut xs a b))) = some z) (hx : Rp own s.heap v (.sc (.str xs))) (hl : Pt l lo) (hu : Pt u hi) (ha : s.heap.IsSliceOf a l u .none) : Gets prog w A E v (.ref a) (Ps own s z) s := by
  obtain ⟨hz, rfl⟩ := slice_go h
  obtain ⟨t, rfl⟩ := hx.str
  obtain ⟨p1, rfl, e1⟩ := hl.part
  obtain ⟨p2, rfl, e2⟩ := hu.part
  obtain ⟨o, ho, hc, hd⟩ := ha
  refine ⟨"str", _, typeIs_str _ _ _, F.slot_str_getitem.lookup, wpAny_getItem_str_slice (l := p1) (u := p2) (st := none) ⟨o, ho, hc, hd⟩ rfl ?_⟩
  unfold sliceMade slicePicked
  have e3 : (Option.map (fun x : Int × Tok => x.1) none).getD (1 : Int) = 1 := rfl
  rw [e3, e1, e2, str_len, strSlice_eq, pick_list, sliceRange_cut]
  split
  · rename_i hw
    have hw : hiN hi xs.length - loN lo xs.length = xs.length := eq_of_beq hw
    have hh := hiN_le hi xs.length
    have e4 : cut xs (loN lo xs.length) (hiN hi xs.length) = xs := cut_full _ _ _ (by unfold cut; rw [List.length_drop, List.length_take]; lia)
    rw [e4]
    exact ⟨.mkStr, keeps_refl s⟩
  · exact ⟨by rw [str_len]; exact size_line (Nat.le_trans (cutS_len ..) hz), .mkStr, keeps_toks s _⟩
theorem slice_bytes {xs : List UInt8} (h : sliceGo xs.length lo hi (fun a b => .sc (.bytes (cut xs a b))) = some z) (hx : Rp own s.heap v (.sc (.bytes xs))) (hl : Pt l lo) (hu : Pt u hi) (ha : s.heap.IsSliceOf a l u .none) : Gets prog w A E v (.ref a) (Ps own s z) s := by
  obtain ⟨hz, rfl⟩ := slice_go h
  obtain ⟨t, rfl⟩ := hx.bytes
  have e : KBy.picked xs.toArray (ptI lo) (ptI hi) = (cut xs (loN lo xs.length) (hiN hi xs.length)).toArray := by
    unfold KBy.picked Builtin.Bytes.sliced
    simp only [List.size_toArray]
    rw [pick_list]
  refine ⟨"bytes", _, typeIs_bytes _ _ _, FB.slot_bytes_getitem.lookup, getItem_meets (typeIs_bytes _ _ _) (by decide) FB.slot_bytes_getitem FB.entry_bytes_getitem (FB.args_bytes_getitem_2 _ _) (KBc.meets_slice2 xs.toArray t a hl.isPart hu.isPart) ⟨ha, ?_, ?_⟩⟩
  · rw [e, List.size_toArray]; refine size_line ?_; unfold cut; rw [List.length_drop, List.length_take]; lia
  · intro t' k
    rw [e]
    exact ⟨.mkBytes, keeps_toks s _⟩
end
theorem slice_sound {x z : D} {lo hi : Option D} {v l u : Value} {a : Addr} (hownd : ∀ a, own = some a → a < s.heap.objs.size) (h : slice x lo hi = some z) (hx : Rp own s.heap v x) (hl : Pt l lo) (hu : Pt u hi) (ha : s.heap.IsSliceOf a l u .none) : Gets prog w A E v (.ref a) (Ps own s z) s := by
  cases x with
  | list xs => exact slice_list (fun e => absurd (hownd _ e) (Nat.lt_irrefl _)) h hx hl hu ha
  | sc c => cases c with
    | str xs => exact sliceS_sound h hx hl hu ha
    | bytes xs => exact slice_bytes h hx hl hu ha
    | _ => exact nope h
  | _ => exact nope h

theorem gets_tail {value slice : Expr} {v u : Value} {Q : Value → Shared → Prop} {ops : List Value} (h : Gets prog w A E v u Q s) (hs : subscripted slice false v u = operate ops (getItem v u)) :
    wpAny (model prog w) A (subscriptTail value slice v u) Q E s := by
  obtain ⟨T, id, h1, h2, h3⟩ := h
  exact tail_any h1 h2 h3 hs
end
end Mine

end
section
open PySem PySem.W PyProof.Rows
set_option Elab.async false
namespace Mine

theorem isInts_are : ∀ {vs : List Value} {l : List Sc} {ns : List Int}, Are vs l → isInts l = some ns → IntsAre vs ns
  | [], [], ns, _, h => by cases h; exact .nil
  | [], _ :: _, _, h, _ => nomatch h
  | _ :: _, [], _, h, _ => nomatch h
  | v :: vs, c :: l, ns, h, hn => by
    have h := List.cons.inj h
    obtain ⟨i, hi, hn⟩ := Option.bind_eq_some_iff.mp hn
    obtain ⟨ms, h1, rfl⟩ := Option.map_eq_some_iff.mp hn
    rw [scInt_some hi] at h
    obtain ⟨t, rfl⟩ := toSc_int h.1
    exact .cons i t (isInts_are h.2 h1)
theorem isInts_map (ns : List Int) : isInts (ns.map .int) = some ns := by
  induction ns with
  | nil => rfl
  | cons a r ih => exact congrArg (Option.map (a :: ·)) ih
theorem isInts_eq : ∀ {l : List Sc} {ns : List Int}, isInts l = some ns → l = ns.map .int
  | [], ns, h => by cases h; rfl
  | c :: l, ns, h => by
    obtain ⟨i, hi, h⟩ := Option.bind_eq_some_iff.mp h
    obtain ⟨ms, h1, rfl⟩ := Option.map_eq_some_iff.mp h
    rw [isInts_eq h1, scInt_some hi]; rfl
theorem are_ints : ∀ {vs : List Value} {ns : List Int}, IntsAre vs ns → Are vs (ns.map .int)
  | _, _, .nil => rfl
  | _, _, .cons n t r => Are.cons rfl (are_ints r)
theorem ints_items : ∀ {vs : List Value} {ns : List Int}, IntsAre vs ns → ∃ xs : Array (Int × Tok), vs.toArray = intItems xs ∧ xs.toList.map (·.1) = ns
  | _, _, .nil => ⟨#[], by simp [intItems], rfl⟩
  | _, _, .cons n t r => by
    obtain ⟨xs, h1, h2⟩ := ints_items r
    refine ⟨#[(n, t)] ++ xs, ?_, ?_⟩
    · apply Array.ext'
      have := congrArg Array.toList h1
      simp [intItems] at this ⊢
      exact this
    · simp [h2]

/-! sorting -/
theorem insertI_perm (a : Int) : ∀ l : List Int, (insertI a l).Perm (a :: l)
  | [] => List.Perm.refl _
  | b :: r => by
    unfold insertI
    split
    · exact List.Perm.refl _
    · exact ((insertI_perm a r).cons b).trans (List.Perm.swap ..)
theorem sortI_perm : ∀ l : List Int, (sortI l).Perm l
  | [] => List.Perm.refl _
  | a :: r => (insertI_perm a (sortI r)).trans ((sortI_perm r).cons a)
theorem insertI_sorted (a : Int) : ∀ l : List Int, l.Pairwise (· ≤ ·) → (insertI a l).Pairwise (· ≤ ·)
  | [], _ => by simp [insertI]
  | b :: r, h => by
    obtain ⟨h1, h2⟩ := List.pairwise_cons.mp h
    unfold insertI
    split
    · rename_i hab
      refine List.pairwise_cons.mpr ⟨fun x hx => ?_, h⟩
      rcases List.mem_cons.mp hx with rfl | hx
      · lia
      · have := h1 x hx; lia
    · rename_i hab
      refine List.pairwise_cons.mpr ⟨fun x hx => ?_, insertI_sorted a r h2⟩
      rcases List.mem_cons.mp ((insertI_perm a r).mem_iff.mp hx) with rfl | hx
      · lia
      · exact h1 x hx
theorem sortI_sorted : ∀ l : List Int, (sortI l).Pairwise (· ≤ ·)
  | [] => List.Pairwise.nil
  | a :: r => insertI_sorted a _ (sortI_sorted r)
theorem sorted_unique : ∀ {l m : List Int}, l.Perm m → l.Pairwise (· ≤ ·) → m.Pairwise (· ≤ ·) → l = m
  | [], m, h, _, _ => (List.nil_perm.mp h).symm
  | a :: l, m, h, h1, h2 => by
    cases m with
    | nil => exact absurd h.length_eq (by simp)
    | cons b m =>
      obtain ⟨p1, q1⟩ := List.pairwise_cons.mp h1
      obtain ⟨p2, q2⟩ := List.pairwise_cons.mp h2
      have ha : a ∈ b :: m := h.mem_iff.mp (List.mem_cons_self ..)
      have hb : b ∈ a :: l := h.mem_iff.mpr (List.mem_cons_self ..)
      have e : a = b := by
        rcases List.mem_cons.mp ha with e | ha
        · exact e
        · rcases List.mem_cons.mp hb with e | hb
          · exact e.symm
          · have := p1 b hb; have := p2 a ha; lia
      subst e
      rw [sorted_unique ((List.perm_cons a).mp h) q1 q2]

section
variable {prog : Program} {w : World} {A : Around} {E : Value → Shared → Prop} {s : Shared} {own : Option Addr}

theorem len_sound {x z : D} {v : Value} {Φ : Fns} (h : fn1 Φ .len x = some z) (hx : Rp own s.heap v x) : wpAny (model prog w) A (call (.builtin "len") [v]) (Ps own s z) E s := by
  obtain ⟨n, hn, h⟩ := Option.bind_eq_some_iff.mp h
  obtain ⟨hz, h⟩ := ite_some h
  cases h
  have hz := size_ok hz
  cases x with
  | list l =>
    cases hn
    cases hx with
    | list p a n => exact Calls.call_len_list p.isList (by rw [List.size_toArray, a.length]; lia) ⟨.sc (by simp [toSc, a.length]), keeps_toks s _⟩
  | sc c => cases c with
    | str l =>
      cases hn
      obtain ⟨t, rfl⟩ := hx.str
      exact P.len_str (by rw [str_len]; lia) ⟨.sc (by simp [toSc, str_len]), keeps_toks s _⟩
    | bytes l =>
      cases hn
      obtain ⟨t, rfl⟩ := hx.bytes
      exact len_bytes (by rw [List.size_toArray]; lia) ⟨.sc (by simp [toSc]), keeps_toks s _⟩
    | _ => exact nope hn
  | _ => exact nope hn

theorem sum_sound {x z : D} {v : Value} {Φ : Fns} (hA : AOk A 0) (h : fn1 Φ .sum x = some z) (hx : Rp own s.heap v x) : wpAny (model prog w) A (call (.builtin "sum") [v]) (Ps own s z) E s := by
  obtain ⟨l, hl, h⟩ := Option.bind_eq_some_iff.mp h
  obtain ⟨hz, h⟩ := ite_some h
  obtain ⟨ns, h1, rfl⟩ := Option.map_eq_some_iff.mp h
  cases D.list_some hl
  cases hx with
  | list p a n =>
    obtain ⟨xs, e1, e2⟩ := ints_items (isInts_are a h1)
    have hl := p.isList
    rw [e1] at hl
    refine sum_intListG hA.1 hl fun h' tk t' k => ⟨.sc ?_, ⟨_, _, rfl, k⟩⟩
    rw [preSum_eq, e2]
    have : ns.length = xs.size := by rw [← e2]; simp
    rw [List.take_of_length_le (by lia)]
    rfl

theorem sorted_sound {x z : D} {v : Value} {Φ : Fns} (hownd : ∀ a, own = some a → a < s.heap.objs.size) (h : fn1 Φ .sorted x = some z) (hx : Rp own s.heap v x) : wpAny (model prog w) A (call (.builtin "sorted") [v]) (Ps own s z) E s := by
  obtain ⟨l, hl, h⟩ := Option.bind_eq_some_iff.mp h
  obtain ⟨hlt, h⟩ := ite_some h
  obtain ⟨ns, h1, rfl⟩ := Option.map_eq_some_iff.mp h
  cases D.list_some hl
  cases hx with
  | list p a n =>
    refine sorted_ints p.isList (isInts_are a h1) (by rw [a.length]; exact hlt) fun out ns' a1 a2 a3 => ?_
    obtain ⟨e, he⟩ := sortedAll_at s.heap ‹List Value› out
    have e2 : ns' = sortI ns := sorted_unique (a2.trans (sortI_perm ns).symm) a3 (sortI_sorted ns)
    subst e2
    exact ⟨.list (vs := out.toList) ⟨e, he⟩ (are_ints a1) (fun e => absurd (hownd _ e) (Nat.not_lt.mpr (Nat.le_succ _))), ⟨_, _, rfl, fun b o hb => sortedAll_old hb⟩⟩

theorem rng_fresh (hownd : ∀ a, own = some a → a < s.heap.objs.size) {a b c : Int} {t u v : Tok} {tk : Nat} : Ps own s (.rng a b c) (.ref s.heap.objs.size) { s with heap := s.heap.push { cls := .type "range", data := .fields #[.int a t, .int b u, .int c v] }, toks := tk } :=
  ⟨.rng (IsRange.new _ a b c t u v) (fun e => absurd (hownd _ e) (Nat.lt_irrefl _)), ⟨_, _, rfl, Ext.push _ _⟩⟩
theorem mkRng_eq {a b c : Int} {z : D} (h : mkRng a b c = some z) : z = .rng a b c ∧ 0 < c ∧ c ≤ 1000000 ∧ smallI a = true ∧ smallI b = true := by
  obtain ⟨hc, h⟩ := ite_some h
  simp only [Bool.and_eq_true, decide_eq_true_eq] at hc
  exact ⟨(Option.some.inj h).symm, hc.2, (small_i hc.1.2).2, hc.1.1.1, hc.1.1.2⟩
theorem range1_sound {x z : D} {v : Value} {Φ : Fns} (hownd : ∀ a, own = some a → a < s.heap.objs.size) (h : fn1 Φ .range x = some z) (hx : Rp own s.heap v x) : wpAny (model prog w) A (call (.type "range") [v]) (Ps own s z) E s := by
  obtain ⟨i, hi, h⟩ := Option.bind_eq_some_iff.mp h
  cases D.int_some hi
  obtain ⟨rfl, _⟩ := mkRng_eq h
  obtain ⟨t, rfl⟩ := hx.int
  exact call_range_1 (rng_fresh hownd)
theorem range2_sound {x y z : D} {v u : Value} {Φ : Fns} (hownd : ∀ a, own = some a → a < s.heap.objs.size) (h : fn2 Φ .range x y = some z) (hx : Rp own s.heap v x) (hy : Rp own s.heap u y) : wpAny (model prog w) A (call (.type "range") [v, u]) (Ps own s z) E s := by
  obtain ⟨i, hi, h⟩ := Option.bind_eq_some_iff.mp h
  obtain ⟨j, hj, h⟩ := Option.bind_eq_some_iff.mp h
  cases D.int_some hi
  cases D.int_some hj
  obtain ⟨rfl, _⟩ := mkRng_eq h
  obtain ⟨t, rfl⟩ := hx.int
  obtain ⟨t', rfl⟩ := hy.int
  exact call_range_2 (rng_fresh hownd)
theorem range3_sound {x y c z : D} {v u r : Value} {Φ : Fns} (hownd : ∀ a, own = some a → a < s.heap.objs.size) (h : fn3 Φ .range x y c = some z) (hx : Rp own s.heap v x) (hy : Rp own s.heap u y) (hc : Rp own s.heap r c) : wpAny (model prog w) A (call (.type "range") [v, u, r]) (Ps own s z) E s := by
  obtain ⟨i, hi, h⟩ := Option.bind_eq_some_iff.mp h
  obtain ⟨j, hj, h⟩ := Option.bind_eq_some_iff.mp h
  obtain ⟨k, hk, h⟩ := Option.bind_eq_some_iff.mp h
  cases D.int_some hi
  cases D.int_some hj
  cases D.int_some hk
  obtain ⟨rfl, h1, h2, _⟩ := mkRng_eq h
  obtain ⟨t, rfl⟩ := hx.int
  obtain ⟨t', rfl⟩ := hy.int
  obtain ⟨t'', rfl⟩ := hc.int
  exact call_range_3 (by lia) (rng_fresh hownd) (.inl (PyProof.noPylong_small (by lia)))
end
end Mine

end
section
open PySem PySem.W PyProof.Rows
set_option Elab.async false
namespace Mine

theorem str_eq {x : Str} {l : List Nat} (h : x.cps.toList = l) : x = Str.mk l.toArray := by
  subst h; rfl
theorem join_toList (sep : List Nat) : ∀ parts : List Str, (Str.join (Str.mk sep.toArray) parts).cps.toList = joinL sep (parts.map (·.cps.toList))
  | [] => rfl
  | [x] => rfl
  | x :: y :: r => by
    have ih := join_toList sep (y :: r)
    show ((x ++ Str.mk sep.toArray ++ Str.join (Str.mk sep.toArray) (y :: r)).cps).toList = _
    rw [Str.cps_append, Str.cps_append, Array.toList_append, Array.toList_append, ih]
    rfl

/-! parting at one sign -/
noncomputable def cutAt (c : Nat) : List Nat → List Nat → List (List Nat)
  | [], cur => [cur.reverse]
  | d :: r, cur => if d = c then cur.reverse :: cutAt c r [] else cutAt c r (d :: cur)
theorem splitOnNL_eq : ∀ (l cur : List Nat), splitOnNL l cur = cutAt 10 l cur
  | [], cur => rfl
  | d :: r, cur => by
    show (if d = 10 then cur.reverse :: splitOnNL r [] else splitOnNL r (d :: cur)) = if d = 10 then cur.reverse :: cutAt 10 r [] else cutAt 10 r (d :: cur)
    rw [splitOnNL_eq r [], splitOnNL_eq r (d :: cur)]
theorem cutAt_free (c : Nat) : ∀ (p q cur : List Nat), c ∉ p → cutAt c (p ++ c :: q) cur = (cur.reverse ++ p) :: cutAt c q []
  | [], q, cur, _ => by simp [cutAt]
  | d :: p, q, cur, h => by
    have h1 : d ≠ c := fun e => h (by rw [e]; exact List.mem_cons_self ..)
    have h2 : c ∉ p := fun e => h (List.mem_cons_of_mem _ e)
    show (if d = c then _ else cutAt c (p ++ c :: q) (d :: cur)) = _
    rw [if_neg h1, cutAt_free c p q (d :: cur) h2]
    simp
theorem cutAt_last (c : Nat) : ∀ (p cur : List Nat), c ∉ p → cutAt c p cur = [cur.reverse ++ p]
  | [], cur, _ => by simp [cutAt]
  | d :: p, cur, h => by
    have h1 : d ≠ c := fun e => h (by rw [e]; exact List.mem_cons_self ..)
    have h2 : c ∉ p := fun e => h (List.mem_cons_of_mem _ e)
    show (if d = c then _ else cutAt c p (d :: cur)) = _
    rw [if_neg h1, cutAt_last c p (d :: cur) h2]
    simp
theorem cutAt_join (c : Nat) : ∀ (p : List Nat) (parts : List (List Nat)), (∀ q ∈ p :: parts, c ∉ q) → cutAt c (joinL [c] (p :: parts)) [] = p :: parts
  | p, [], h => by
    show cutAt c p [] = [p]
    rw [cutAt_last c p [] (h p (List.mem_cons_self ..))]; simp
  | p, q :: r, h => by
    have ih := cutAt_join c q r fun x hx => h x (List.mem_cons_of_mem _ hx)
    show cutAt c (p ++ [c] ++ joinL [c] (q :: r)) [] = _
    rw [List.append_assoc]
    show cutAt c (p ++ c :: joinL [c] (q :: r)) [] = _
    rw [cutAt_free c p _ [] (h p (List.mem_cons_self ..)), ih]
    simp
theorem split_is (l : List Nat) (c : Nat) : (Txt.split (Str.mk l.toArray) ⟨#[c]⟩).map (·.cps.toList) = cutAt c l [] := by
  have h1 := StrLaws.join_split (Str.mk l.toArray) ⟨#[c]⟩
  have h2 := StrLaws.split_free (Str.mk l.toArray) c
  have h3 := split_pos (Str.mk l.toArray) ⟨#[c]⟩
  have h4 := join_toList [c] (Txt.split (Str.mk l.toArray) ⟨#[c]⟩)
  rw [show (Str.mk [c].toArray) = ⟨#[c]⟩ from rfl, h1] at h4
  generalize Txt.split (Str.mk l.toArray) ⟨#[c]⟩ = parts at h2 h3 h4
  cases parts with
  | nil => simp at h3
  | cons p r =>
    have e : l = joinL [c] ((p :: r).map (·.cps.toList)) := by simpa using h4
    rw [e]
    refine (cutAt_join c p.cps.toList (r.map (·.cps.toList)) ?_).symm
    intro q hq
    have : q ∈ (p :: r).map (·.cps.toList) := hq
    obtain ⟨x, hx, rfl⟩ := List.mem_map.mp this
    exact h2 x hx
theorem split_nl (l : List Nat) : (Txt.split (Str.mk l.toArray) ⟨#[10]⟩).map (·.cps.toList) = splitOnNL l [] := by rw [splitOnNL_eq, split_is]

theorem join_nil_flat : ∀ parts : List (List Nat), joinL [] parts = parts.flatten
  | [] => rfl
  | [p] => by simp [joinL]
  | p :: q :: r => by
    show p ++ [] ++ joinL [] (q :: r) = _
    rw [join_nil_flat (q :: r)]; simp
theorem cutAt_flat (c : Nat) : ∀ (l cur : List Nat), (cutAt c l cur).flatten = cur.reverse ++ l.filter (· != c)
  | [], cur => by simp [cutAt]
  | d :: r, cur => by
    unfold cutAt
    by_cases h : d = c
    · rw [if_pos h, List.flatten_cons, cutAt_flat c r []]; simp [h]
    · rw [if_neg h, cutAt_flat c r (d :: cur)]; simp [h]
theorem replace_is (l : List Nat) : Txt.replace (Str.mk l.toArray) ⟨#[46]⟩ ⟨#[]⟩ = Str.mk (l.filter (· != 46)).toArray := by
  rw [StrLaws.replace_one]
  refine str_eq ?_
  have := join_toList [] (Txt.split (Str.mk l.toArray) ⟨#[46]⟩)
  rw [show (Str.mk ([] : List Nat).toArray) = ⟨#[]⟩ from rfl] at this
  rw [this, split_is, join_nil_flat, cutAt_flat]
  simp
theorem cnt_count (c : Nat) : ∀ l : List Nat, cnt c l = (l.count c : Nat)
  | [] => rfl
  | d :: r => by
    rw [cnt_cons, cnt_count c r, List.count_cons]
    by_cases h : d = c <;> simp [h]
    lia
theorem count_is' (l : List Nat) : Txt.count (Str.mk l.toArray) ⟨#[46]⟩ = (l.count 46 : Nat) := by
  rw [count_is]
  exact cnt_count 46 l
theorem endswith_is (a b : List Nat) : Txt.endswith (Str.mk a.toArray) (Str.mk b.toArray) = b.isSuffixOf a := by
  unfold Txt.endswith
  rw [str_len, str_len, StrLaws.subAt_eq, str_len, Nat.zero_add]
  rw [Bool.eq_iff_iff, Bool.and_eq_true, decide_eq_true_eq, beq_iff_eq, List.isSuffixOf_iff_suffix]
  constructor
  · rintro ⟨h1, h2⟩
    refine ⟨a.take (a.length - b.length), ?_⟩
    have : (a.drop (a.length - b.length)).take b.length = a.drop (a.length - b.length) := List.take_of_length_le (by simp; lia)
    have h2 : (a.drop (a.length - b.length)).take b.length = b := h2
    have e : a.drop (a.length - b.length) = b := this.symm.trans h2
    have := List.take_append_drop (a.length - b.length) a
    rw [e] at this
    exact this
  · rintro ⟨p, rfl⟩
    refine ⟨by simp, ?_⟩
    simp
theorem tame_space : ∀ c, c < 127 → tame c = true → Unicode.isSpace c = false := by decide +kernel
theorem tame_lt {c : Nat} (h : tame c = true) : 33 ≤ c ∧ c ≤ 126 := by unfold tame at h; simpa using h
theorem rstrip_is {l : List Nat} (h : l.all tame = true) : Txt.rstrip (Str.mk l.toArray) = Str.mk l.toArray := by
  unfold Txt.rstrip Txt.stripBy stripSame stripHi stripLo
  rw [if_pos]
  simp only [Bool.false_eq_true, if_false, beq_self_eq_true, if_true, Bool.true_and, List.drop_zero]
  have e : (List.takeWhile Unicode.isSpace (Str.mk l.toArray).cps.toList.reverse) = [] := by
    have hm : ∀ c ∈ (Str.mk l.toArray).cps.toList.reverse, Unicode.isSpace c = false := by
      intro c hc
      have hc : c ∈ l := by simpa using hc
      have ht := List.all_eq_true.mp h _ hc
      exact tame_space _ (by have := tame_lt ht; lia) ht
    revert hm
    cases (Str.mk l.toArray).cps.toList.reverse with
    | nil => intro _; rfl
    | cons a r => intro hm; rw [List.takeWhile_cons, hm a (List.mem_cons_self ..)]; rfl
  rw [e]
  simp

/-! lines -/
theorem break_tame : ∀ c, c < 127 → tame c = true → Unicode.isLineBreak c = false := by decide +kernel
theorem break_nl : Unicode.isLineBreak 10 = true := by decide +kernel
open StrLaws in
theorem ls_run_is (l : List Nat) (hl : l.all (fun c => tame c || c == 10) = true) : ∀ (m cur : Nat) (lines : Array (Nat × Nat × Nat)) (start : Nat), cur + m = l.length → start ≤ cur →
    ((lsEnd (Str.mk l.toArray) (Id.run (forIn (m := Id) (List.range' cur m) ((lines, start) : LsSt) (lsBody (Str.mk l.toArray))))).map fun p => (l.drop p.1).take (p.2.1 - p.1)) =
      (lines.toList.map fun p => (l.drop p.1).take (p.2.1 - p.1)) ++ linesOf (l.drop cur) ((l.drop start).take (cur - start)).reverse
  | 0, cur, lines, start, hm, hs => by
    have hc : cur = l.length := by lia
    subst hc
    have e0 : l.drop l.length = [] := by simp
    have e1 : (l.drop start).take (l.length - start) = l.drop start := List.take_of_length_le (by simp)
    rw [e0, e1]
    show ((if start < (Str.mk l.toArray).length then lines.push (start, (Str.mk l.toArray).length, (Str.mk l.toArray).length) else lines).toList.map _) = _
    rw [str_len]
    by_cases h : start < l.length
    · rw [if_pos h]
      have hne : (l.drop start).isEmpty = false := by
        cases hd : l.drop start with
        | nil => simp at hd; lia
        | cons => rfl
      have : linesOf [] (l.drop start).reverse = [l.drop start] := by
        unfold linesOf
        rw [if_neg (by rw [List.isEmpty_reverse, hne]; exact Bool.false_ne_true), List.reverse_reverse]
      rw [this, Array.toList_push, List.map_append]
      simp only [List.map_cons, List.map_nil, e1]
    · rw [if_neg h]
      have : l.drop start = [] := by simp; lia
      rw [this]
      simp [linesOf]
  | m + 1, cur, lines, start, hm, hs => by
    rw [List.range'_succ, List.forIn_cons]
    have hlt : cur < l.length := by lia
    have hcur : l.drop cur = l[cur] :: l.drop (cur + 1) := List.drop_eq_getElem_cons hlt
    have hget : (Str.mk l.toArray).cps.getD cur 0 = l[cur] := by simp [Array.getD, hlt]
    have hin : (tame l[cur] || l[cur] == 10) = true := List.all_eq_true.mp hl _ (List.getElem_mem hlt)
    unfold lsBody
    rw [hget]
    by_cases h10 : l[cur] = 10
    · have hb : (decide (start ≤ cur) && Unicode.isLineBreak l[cur]) = true := by rw [h10, break_nl]; simp [hs]
      simp only [hb, if_true]
      have hn : lsNext (Str.mk l.toArray) cur = cur + 1 := by
        unfold lsNext
        rw [hget, h10]
        simp
      rw [hn]
      refine (ls_run_is l hl m (cur + 1) _ (cur + 1) (by lia) (Nat.le_refl _)).trans ?_
      rw [hcur, h10]
      simp [linesOf]
    · have ht : tame l[cur] = true := by simpa [h10] using hin
      have hb : (decide (start ≤ cur) && Unicode.isLineBreak l[cur]) = false := by
        rw [break_tame _ (by have := tame_lt ht; lia) ht]; simp
      simp only [hb, Bool.false_eq_true, if_false]
      refine (ls_run_is l hl m (cur + 1) lines start (by lia) (by lia)).trans ?_
      congr 1
      have e2 : (l.drop start).take (cur + 1 - start) = (l.drop start).take (cur - start) ++ [l[cur]] := by
        rw [show cur + 1 - start = (cur - start) + 1 by lia, List.take_add_one]
        congr 1
        rw [List.getElem?_drop, show start + (cur - start) = cur by lia]
        simp [hlt]
      rw [hcur, e2, List.reverse_append]
      show _ = if l[cur] = 10 then _ else linesOf (l.drop (cur + 1)) (l[cur] :: _)
      rw [if_neg h10]
      rfl
theorem lines_is {l : List Nat} (hl : l.all (fun c => tame c || c == 10) = true) : (Txt.lines (Str.mk l.toArray)).map (·.cps.toList) = linesOf l [] := by
  have key := ls_run_is l hl l.length 0 #[] 0 (by lia) (Nat.le_refl _)
  simp only [List.drop_zero, Nat.sub_zero, List.take_zero, List.reverse_nil, List.map_nil, List.nil_append] at key
  have e1 : (PySem.linesOf (Str.mk l.toArray)).map (·.cps.toList) = linesOf l [] := by
    unfold PySem.linesOf lineCuts
    rw [List.map_map, List.map_map, StrLaws.ls_eq, str_len]
    rw [← key]
    apply List.map_congr_left
    intro p hp
    simp [StrLaws.strSub_toList]
  unfold Txt.lines
  split
  · rename_i hw
    rw [← e1]
    unfold PySem.linesOf
    rw [beq_iff_eq.mp hw]
    simp [StrLaws.strSub_toList, str_len]
  · exact e1
end Mine

end
section
open PySem PySem.W PyProof.Rows
set_option Elab.async false
namespace Mine

theorem isStrs_map : ∀ {l : List Sc} {ls : List (List Nat)}, isStrs l = some ls → l = ls.map .str
  | [], ls, h => by cases h; rfl
  | c :: l, ls, h => by
    obtain ⟨i, hi, h⟩ := Option.bind_eq_some_iff.mp h
    obtain ⟨ms, h1, rfl⟩ := Option.map_eq_some_iff.mp h
    rw [isStrs_map h1, scStr_some hi]; rfl
theorem isStrs_of (ls : List (List Nat)) : isStrs (ls.map .str) = some ls := by
  induction ls with
  | nil => rfl
  | cons a r ih => exact congrArg (Option.map (a :: ·)) ih
theorem are_strs : ∀ {vs : List Value} {ls : List (List Nat)}, Are vs (ls.map .str) → ∃ l : List (Str × Tok), vs = strValues l ∧ l.map (·.1) = ls.map (fun x => Str.mk x.toArray)
  | [], [], _ => ⟨[], rfl, rfl⟩
  | [], _ :: _, h => by simp [Are] at h
  | _ :: _, [], h => by simp [Are] at h
  | v :: vs, c :: l, h => by
    simp only [Are, List.map_cons, List.cons.injEq] at h
    obtain ⟨t, rfl⟩ := toSc_str h.1
    obtain ⟨r, h1, h2⟩ := are_strs (vs := vs) (ls := l) h.2
    exact ⟨(Str.mk c.toArray, t) :: r, by rw [h1]; rfl, by simp [h2]⟩
theorem are_values (l : List (Str × Tok)) : Are (strValues l) (((l.map (·.1)).map (fun x : Str => x.cps.toList)).map .str) := by
  unfold Are strValues
  rw [List.map_map, List.map_map, List.map_map, List.map_map]
  rfl

theorem joined_is (sep : List Nat) (ls : List (List Nat)) : Txt.join (Str.mk sep.toArray) (ls.map fun x => Str.mk x.toArray) = Str.mk (joinL sep ls).toArray := by
  refine str_eq ?_
  unfold Txt.join
  rw [StrLaws.glued_eq_join, join_toList, List.map_map]
  congr 1
  have : ((fun x : Str => x.cps.toList) ∘ fun x : List Nat => Str.mk x.toArray) = id := by funext x; simp
  rw [this, List.map_id]
theorem joinFold (sep : Nat) : ∀ (l : List Str) (n : Nat), l.foldl (fun a p => a + p.length + sep) n = n + (l.map (·.length)).sum + l.length * sep
  | [], n => by simp
  | x :: r, n => by
    rw [List.foldl_cons, joinFold sep r, List.map_cons, List.sum_cons, List.length_cons, Nat.add_mul]
    lia
theorem joinOk_is {sep : List Nat} {ls : List (List Nat)} (h : ls.length * (sep.length + 1) + (ls.map List.length).sum ≤ 100000) : JoinOk (Str.mk sep.toArray) (ls.map fun x => Str.mk x.toArray) = true := by
  unfold JoinOk
  rw [List.foldl_toArray]
  have e := joinFold (Str.mk sep.toArray).length (ls.map fun x => Str.mk x.toArray) 0
  rw [e, List.map_map, List.length_map, str_len]
  have e2 : (Str.length ∘ fun x : List Nat => Str.mk x.toArray) = List.length := by funext x; simp [str_len]
  rw [e2]
  unfold Builtin.Str.tooLong
  rw [sizeLine_eq, decide_eq_false]; rfl
  have : ls.length * (sep.length + 1) = ls.length * sep.length + ls.length := by rw [Nat.mul_add, Nat.mul_one]
  lia

section
variable {prog : Program} {w : World} {A : Around} {E : Value → Shared → Prop} {s : Shared} {own : Option Addr}

theorem splitlines_sound {x z : D} {v : Value} (hownd : ∀ a, own = some a → a < s.heap.objs.size) (h : meth0 .splitlines x = some z) (hx : Rp own s.heap v x) : wpAny (model prog w) A (call (.builtin "str.splitlines") [v]) (Ps own s z) E s := by
  have hfresh : own ≠ some s.heap.objs.size := fun e => absurd (hownd _ e) (Nat.lt_irrefl _)
  obtain ⟨l, hl0, h⟩ := Option.bind_eq_some_iff.mp h
  obtain ⟨hz0, h⟩ := ite_some h
  cases h
  cases D.str_some hl0
  obtain ⟨hz1, hl⟩ := Bool.and_eq_true_iff.mp hz0
  have hz := size_ok hz1
  obtain ⟨t, rfl⟩ := hx.str
  have e := lines_is hl
  have hlen : (Str.mk l.toArray).length ≤ sizeLine := by rw [str_len]; exact size_line hz
  have hcuts : (lineCuts (Str.mk l.toArray)).length ≤ sizeLine := Nat.le_trans (lineCuts_le _) (by rw [str_len, sizeLine_eq]; lia)
  refine call_meets F.slot_str_splitlines (typeIs_str _ _ _) F.entry_str_splitlines (F.args_str_splitlines_1 _) (meets_str_splitlines _ t hlen hcuts) ?_
  cases hw : lineCuts (Str.mk l.toArray) == [(0, (Str.mk l.toArray).length)]
  · simp only [Bool.false_eq_true, if_false]
    rw [strsFrom_eq]
    refine ⟨.list ⟨0, Heap.get?_push_size _ rfl⟩ ?_ hfresh, ⟨_, _, rfl, Ext.push _ _⟩⟩
    have e3 : (numbered s.toks (PySem.linesOf (Str.mk l.toArray))).map (·.1) = Txt.lines (Str.mk l.toArray) := (numbered_texts _ _).trans (if_neg (ne_true_of_eq_false hw)).symm
    have e4 := are_values (numbered s.toks (PySem.linesOf (Str.mk l.toArray)))
    rw [e3, e] at e4
    exact e4
  · simp only [if_true]
    refine ⟨.list (vs := [.str (Str.mk l.toArray) t]) ⟨0, Heap.get?_push_size _ rfl⟩ ?_ hfresh, ⟨_, _, rfl, Ext.push _ _⟩⟩
    have e3 : Txt.lines (Str.mk l.toArray) = [Str.mk l.toArray] := if_pos hw
    rw [e3] at e
    rw [← e]
    rfl

theorem rstrip_sound {x z : D} {v : Value} (h : meth0 .rstrip x = some z) (hx : Rp own s.heap v x) : wpAny (model prog w) A (call (.builtin "str.rstrip") [v]) (Ps own s z) E s := by
  obtain ⟨l, hl0, h⟩ := Option.bind_eq_some_iff.mp h
  obtain ⟨hz, h⟩ := ite_some h
  cases h
  cases D.str_some hl0
  obtain ⟨hz, hl⟩ := Bool.and_eq_true_iff.mp hz
  obtain ⟨t, rfl⟩ := hx.str
  refine SC.rstrip (fun t' k => ⟨?_, keeps_toks s _⟩) (by rw [str_len]; exact size_line (size_ok hz))
  rw [rstrip_is hl]; exact .mkStr

theorem splitNL_sound {x z : D} {v : Value} {u : Tok} (hownd : ∀ a, own = some a → a < s.heap.objs.size) (h : meth0 .splitNL x = some z) (hx : Rp own s.heap v x) : wpAny (model prog w) A (call (.builtin "str.split") [v, .str ⟨#[10]⟩ u]) (Ps own s z) E s := by
  have hfresh : own ≠ some s.heap.objs.size := fun e => absurd (hownd _ e) (Nat.lt_irrefl _)
  obtain ⟨l, hl0, h⟩ := Option.bind_eq_some_iff.mp h
  obtain ⟨hz0, h⟩ := ite_some h
  cases h
  cases D.str_some hl0
  have hz := size_ok hz0
  obtain ⟨t, rfl⟩ := hx.str
  have hsz : (Str.mk l.toArray).length ≤ sizeLine := by rw [str_len]; exact size_line hz
  have e := split_nl l
  have e' : Txt.split (Str.mk l.toArray) ⟨#[10]⟩ = (splitOnNL l []).map fun x => Str.mk x.toArray := by
    rw [← e, List.map_map]
    conv => lhs; rw [← List.map_id (Txt.split (Str.mk l.toArray) ⟨#[10]⟩)]
    apply List.map_congr_left
    intro x _
    rfl
  have fin : ∀ (q : List (Str × Tok)) (tk : Nat), q.map (·.1) = Txt.split (Str.mk l.toArray) ⟨#[10]⟩ → Ps own s (.list ((splitOnNL l []).map .str)) (.ref s.heap.objs.size) { s with heap := s.heap.push { cls := .type "list", data := .seq (strValues q).toArray }, toks := tk } := by
    intro q tk hq
    refine ⟨.list ⟨0, Heap.get?_push_size _ rfl⟩ ?_ hfresh, ⟨_, _, rfl, Ext.push _ _⟩⟩
    have e4 := are_values q
    rw [hq, e] at e4
    exact e4
  have hy : ((⟨#[10]⟩ : Str).length == 0) = false := rfl
  have hsz2 : (Builtin.Str.partsBetween (Str.mk l.toArray) (Builtin.Str.occurrences (Str.mk l.toArray) ⟨#[10]⟩ 0 (Str.mk l.toArray).length ((Str.mk l.toArray).length + 1)) (⟨#[10]⟩ : Str).length).length ≤ sizeLine := by
    rw [StrLaws.partsBetween_eq]
    have h1 := StrLaws.occ_length_le (Str.mk l.toArray) ⟨#[10]⟩ 0 (Str.mk l.toArray).length ((Str.mk l.toArray).length + 1)
    have h2 : ∀ (cuts : List Nat) (a : Nat), (StrLaws.partsFrom (Str.mk l.toArray) (⟨#[10]⟩ : Str).length a cuts).length = cuts.length + 1 := by
      intro cuts
      induction cuts with
      | nil => intro a; rfl
      | cons c r ih => intro a; show (_ :: _).length = _; rw [List.length_cons, ih]; rfl
    rw [h2, sizeLine_eq]
    rw [str_len] at h1 ⊢
    lia
  cases h1 : (decide ((Str.mk l.toArray).length < (⟨#[10]⟩ : Str).length) || decide (Builtin.Str.strKind (Str.mk l.toArray) < Builtin.Str.strKind ⟨#[10]⟩))
  · cases hf : (Builtin.Str.occurrences (Str.mk l.toArray) ⟨#[10]⟩ 0 (Str.mk l.toArray).length ((Str.mk l.toArray).length + 1)).isEmpty
    · refine call_meets F.slot_str_split (typeIs_str _ _ _) F.entry_str_split (F.args_str_split_2 _ _) (meets_str_split_sep _ _ t u h1 hy hf hsz hsz2) ?_
      have := fun tk => fin (numbered s.toks _) tk ((numbered_texts s.toks (Builtin.Str.partsBetween (Str.mk l.toArray) (Builtin.Str.occurrences (Str.mk l.toArray) ⟨#[10]⟩ 0 (Str.mk l.toArray).length ((Str.mk l.toArray).length + 1)) (⟨#[10]⟩ : Str).length)).trans ((if_neg (ne_true_of_eq_false h1)).trans (if_neg (ne_true_of_eq_false hf))).symm)
      simp only [← strsFrom_eq] at this
      exact this _
    · exact call_meets F.slot_str_split (typeIs_str _ _ _) F.entry_str_split (F.args_str_split_2 _ _) (meets_str_split_not_found _ _ t u h1 hy hf)
        (fin [(Str.mk l.toArray, t)] s.toks ((if_neg (ne_true_of_eq_false h1)).trans (if_pos hf)).symm)
  · exact call_meets F.slot_str_split (typeIs_str _ _ _) F.entry_str_split (F.args_str_split_2 _ _) (meets_str_split_cannot_occur _ _ t u h1)
      (fin [(Str.mk l.toArray, t)] s.toks (if_pos h1).symm)

theorem replDot_sound {x z : D} {v : Value} {u1 u2 : Tok} (h : meth0 .replDot x = some z) (hx : Rp own s.heap v x) (h1 : u1 ≠ 0) (h2 : u2 ≠ 0) (h3 : u1 ≠ u2) : wpAny (model prog w) A (call (.builtin "str.replace") [v, .str ⟨#[46]⟩ u1, .str ⟨#[]⟩ u2]) (Ps own s z) E s := by
  obtain ⟨l, hl0, h⟩ := Option.bind_eq_some_iff.mp h
  obtain ⟨hz, h⟩ := ite_some h
  cases h
  cases D.str_some hl0
  have hz := size_ok hz
  obtain ⟨t, rfl⟩ := hx.str
  refine SC.replaceW h1 h2 h3 (by decide) (by rw [str_len]; lia) (by decide) fun t' k => ⟨?_, keeps_toks s _⟩
  rw [replace_is]; exact .mkStr
theorem countDot_sound {x z : D} {v : Value} {u : Tok} (h : meth0 .countDot x = some z) (hx : Rp own s.heap v x) : wpAny (model prog w) A (call (.builtin "str.count") [v, .str ⟨#[46]⟩ u]) (Ps own s z) E s := by
  obtain ⟨l, hl0, h⟩ := Option.bind_eq_some_iff.mp h
  obtain ⟨hz, h⟩ := ite_some h
  cases h
  cases D.str_some hl0
  obtain ⟨t, rfl⟩ := hx.str
  refine SC.count ⟨?_, keeps_toks s _⟩
  rw [count_is']; exact .mkInt
theorem join_sound {x y z : D} {v u : Value} (h : meth1 .join x y = some z) (hx : Rp own s.heap v x) (hy : Rp own s.heap u y) : wpAny (model prog w) A (call (.builtin "str.join") [v, u]) (Ps own s z) E s := by
  obtain ⟨sp, hs, h⟩ := Option.bind_eq_some_iff.mp h
  obtain ⟨l, hl, h⟩ := Option.bind_eq_some_iff.mp h
  obtain ⟨ls, h1, h⟩ := Option.bind_eq_some_iff.mp h
  obtain ⟨hz, h⟩ := ite_some h
  cases h
  cases D.str_some hs
  cases D.list_some hl
  have hz := size_ok hz
  obtain ⟨t, rfl⟩ := hx.str
  have e := isStrs_map h1
  subst e
  cases hy with
  | list p a n =>
    obtain ⟨q, rfl, e2⟩ := are_strs a
    refine SC.join p.isList e2 (joinOk_is (by simpa using hz)) fun t' k => ⟨?_, keeps_toks s _⟩
    rw [joined_is]; exact .mkStr
theorem endswith_sound {x y z : D} {v u : Value} (h : meth1 .endswith x y = some z) (hx : Rp own s.heap v x) (hy : Rp own s.heap u y) : wpAny (model prog w) A (call (.builtin "str.endswith") [v, u]) (Ps own s z) E s := by
  obtain ⟨a, ha, h⟩ := Option.bind_eq_some_iff.mp h
  obtain ⟨b, hb, h⟩ := Option.bind_eq_some_iff.mp h
  cases h
  cases D.str_some ha
  cases D.str_some hb
  obtain ⟨t, rfl⟩ := hx.str
  obtain ⟨t', rfl⟩ := hy.str
  refine SC.endswith ⟨?_, keeps_refl s⟩
  rw [endswith_is]; exact .mkBool
end
end Mine

end
section
open PySem PySem.W PyProof.Rows
set_option Elab.async false
set_option maxRecDepth 100000
namespace Mine
open Builtin

theorem range_forIn {β : Type} (n : Nat) (init : β) (f : Nat → β → Sem (ForInStep β)) : forIn [0:n] init f = forIn (List.range' 0 n) init f := by
  simp [Std.Legacy.Range.forIn_eq_forIn_range', Std.Legacy.Range.size]
theorem two_turn {β : Type} {n : Nat} {init s1 : β} {f : Nat → β → Sem (ForInStep β)} (h0 : ∀ i, f i init = pure (.yield s1)) (h1 : ∀ i, f i s1 = pure (.done s1)) (hn : 0 < n) :
    forIn [0:n] init f = pure s1 := by
  rw [range_forIn]
  obtain ⟨m, rfl⟩ : ∃ m, n = m + 1 := ⟨n - 1, by lia⟩
  rw [List.range'_succ, List.forIn_cons, h0]
  show forIn (List.range' _ m) s1 f = _
  cases m with
  | zero => rfl
  | succ m =>
    rw [List.range'_succ, List.forIn_cons, h1]
    rfl



theorem fold_enc : ∀ (l : List Nat) (acc : Array UInt8), List.foldl (fun acc y => acc ++ (_codecs.latin1Codec.bytesOf y).toArray) acc l = acc ++ (l.map Nat.toUInt8).toArray
  | [], acc => by simp
  | c :: l, acc => by
    rw [List.foldl_cons, fold_enc l]
    simp only [_codecs.latin1Codec, Array.append_assoc]
    congr 1
    apply Array.ext'
    simp
theorem enc_latin (id : String) (self : Value) (l : List Nat) (hz : l.length ≤ 100000) (ht : l.all tame = true) :
    _codecs.encodeNarrow id _codecs.latin1Codec none self (Str.mk l.toArray) = pure (l.map Nat.toUInt8).toArray := by
  cases l with
  | nil =>
    unfold _codecs.encodeNarrow
    dsimp only
    rw [range_forIn]
    rfl
  | cons c l =>
    unfold _codecs.encodeNarrow
    dsimp only
    have hn : Array.findIdx? _codecs.latin1Codec.bad (c :: l).toArray = none := by
      rw [Array.findIdx?_eq_none_iff]
      intro x hx
      have := List.all_eq_true.mp ht x (by simpa using hx)
      have := tame_lt this
      simp [_codecs.latin1Codec]; lia
    have hb : _codecs.latin1Codec.bad c = false := by
      have := List.all_eq_true.mp ht c (by simp)
      have := tame_lt this
      simp [_codecs.latin1Codec]; lia
    rw [two_turn (s1 := ((c :: l).length, ((c :: l).map Nat.toUInt8).toArray, {}))]
    · rfl
    · intro i
      rw [if_neg (by rw [sizeLine_eq]; simp)]
      have e0 : (c :: l).toArray[0]? = some c := by simp
      simp only [e0, hb, Bool.not_false, if_true]
      have e1 : (c :: l).toArray.extract 0 = (c :: l).toArray := by simp
      simp only [e1, hn, Option.getD_none]
      congr 1
      simp only [List.foldl_toArray', fold_enc]
      simp
    · intro i
      rw [if_neg (by rw [sizeLine_eq]; simp at hz ⊢; lia)]
      have e0 : (c :: l).toArray[(c :: l).length]? = none := by simp
      simp only [e0]
    · simp [Str.length]
theorem dec_go (f : Nat → (Nat × Array Nat × _codecs.Faults) → Sem (ForInStep (Nat × Array Nat × _codecs.Faults))) (st : _codecs.Faults) (b : List UInt8)
    (hf : ∀ i p x, b[p]? = some x → f i (p, ((b.take p).map UInt8.toNat).toArray, st) = pure (.yield (p + 1, ((b.take (p + 1)).map UInt8.toNat).toArray, st))) :
    ∀ (n k p : Nat), p + n = b.length → forIn (List.range' k n) (p, ((b.take p).map UInt8.toNat).toArray, st) f = pure (b.length, (b.map UInt8.toNat).toArray, st)
  | 0, k, p, h => by
    have : p = b.length := by lia
    subst this
    simp [List.range']
  | n + 1, k, p, h => by
    have hp : p < b.length := by lia
    rw [List.range'_succ, List.forIn_cons, hf k p b[p] (by simp [hp])]
    show forIn (List.range' _ n) _ f = _
    exact dec_go f st b hf n _ (p + 1) (by lia)
theorem dec_latin (id : String) (held : List Value) (b : List UInt8) (hz : b.length ≤ 100000) :
    _codecs.runDecoder id _codecs.latin1Decoder none true b.toArray 0 held = pure ((b.map UInt8.toNat).toArray, b.length) := by
  unfold _codecs.runDecoder
  dsimp only
  rw [range_forIn]
  refine (congrArg (· >>= _) (dec_go _ { held } b ?_ _ 0 0 ?_)).trans ?_
  · intro i p x hx
    have hp : p < b.length := by
      rcases Nat.lt_or_ge p b.length with h | h
      · exact h
      · rw [List.getElem?_eq_none h] at hx; cases hx
    rw [if_neg (by rw [sizeLine_eq]; simp; lia), if_neg (by simp; lia)]
    simp only [_codecs.latin1Decoder, _codecs.Found.char]
    congr 1
    simp [List.take_add_one, hx]
  · simp
  · rfl

section
variable {prog : Program} {w : World} {A : Around} {E : Value → Shared → Prop} {s : Shared} {own : Option Addr}
theorem encodeRoad_latin (id : String) (self : Value) (x : Str) : _codecs.encodeRoad id self x (Str.ofString "latin-1") none = (do mkBytes (← _codecs.encodeNarrow id _codecs.latin1Codec none self x)) := by
  kernel_rfl
theorem encode_eq (x : Str) (t t1 : Tok) : «str.encode» ⟨[.str x t, .str (Str.ofString "latin-1") t1], []⟩ = (do ret (← _codecs.encodeRoad "str.encode" (.str x t) x (Str.ofString "latin-1") none)) := by kernel_rfl
theorem meets_encode {l : List Nat} {t t1 : Tok} (hz : l.length ≤ 100000) (ht : l.all tame = true) :
    Meets («str.encode» ⟨[.str ⟨l.toArray⟩ t, .str (Str.ofString "latin-1") t1], []⟩) (fun _ R s => ∀ t' k, R (.ok (.ret (.bytes (l.map Nat.toUInt8).toArray t'))) { s with toks := k }) := by
  refine .of_wp fun prog w A R s hS => ?_
  rw [encode_eq, encodeRoad_latin, enc_latin _ _ _ hz ht]
  refine wpAny_bind (wpAny_bind (wpAny_pure ?_))
  exact wpAny_mkBytes (wpAny_pure ⟨_, rfl, hS _ _⟩) (by rw [sizeLine_eq]; simp; lia)
theorem encode_sound {x z : D} {v : Value} {u : Tok} (h : meth0 .encode x = some z) (hx : Rp own s.heap v x) : wpAny (model prog w) A (call (.builtin "str.encode") [v, .str (Str.ofString "latin-1") u]) (Ps own s z) E s := by
  obtain ⟨l, hl0, h⟩ := Option.bind_eq_some_iff.mp h
  obtain ⟨hz, h⟩ := ite_some h
  cases h
  cases D.str_some hl0
  obtain ⟨hz, hl⟩ := Bool.and_eq_true_iff.mp hz
  obtain ⟨t, rfl⟩ := hx.str
  exact call_meets F.slot_str_encode (typeIs_str _ _ _) F.entry_str_encode (F.args_str_encode_2 _ _) (meets_encode (size_ok hz) hl) (fun t' k => ⟨.mkBytes, keeps_toks s k⟩)

theorem road_eq {id : String} {b : Array UInt8} : _codecs.decodeRoad id b (Str.ofString "latin-1") none [] = (_codecs.runDecoder id _codecs.latin1Decoder none true b 0 [] >>= fun r => mkStr ⟨r.1⟩) := by kernel_rfl
theorem meets_text {b : List UInt8} {t t1 t2 : Tok} {d : Str} (hz : b.length ≤ 100000) :
    Meets («_codecs.decode.text» ⟨[.bytes b.toArray t, .str (Str.ofString "latin-1") t1, .none, .str d t2], []⟩) (fun _ R s => R (.ok (.ret (.str ⟨(b.map UInt8.toNat).toArray⟩ s.toks))) { s with toks := s.toks + 1 }) := by
  refine .of_wp fun prog w A R s h => ?_
  show wpAny _ _ (Bytes.bytesLike _ (.bytes b.toArray t) >>= fun r => _) _ _ s
  refine wpAny_bind (wpAny_of_eq KBd.like_eq ?_)
  refine wpAny_bind (wpAny_of_eq KBd.held_eq ?_)
  show wpAny _ _ (_codecs.decodeRoad _ b.toArray (Str.ofString "latin-1") none [] >>= fun v => _) _ _ s
  rw [road_eq, dec_latin _ _ _ hz]
  refine wpAny_bind (wpAny_bind (wpAny_pure ?_))
  exact wpAny_mkStr (wpAny_pure ⟨_, rfl, h⟩) (by rw [sizeLine_eq, str_len]; simp; lia)
theorem dentry_eq {c : UInt8} {cs : List UInt8} {t t1 : Tok} : «bytes.decode» ⟨[.bytes (c :: cs).toArray t, .str (Str.ofString "latin-1") t1], []⟩ = (mkStr (Str.ofString "utf-8") >>= fun _ => mkStr (Str.ofString "latin-1") >>= fun e => mkStr (Str.ofString "bytes.decode") >>= fun d =>
    call (.builtin "_codecs.decode.text") [.bytes (c :: cs).toArray t, e, .none, d] >>= fun v => ret v) := by kernel_rfl
theorem meets_decode {b : List UInt8} {t t1 : Tok} (hz : b.length ≤ 100000) (hb : b ≠ []) :
    Meets («bytes.decode» ⟨[.bytes b.toArray t, .str (Str.ofString "latin-1") t1], []⟩) (fun _ R s => ∀ t' k, R (.ok (.ret (.str ⟨(b.map UInt8.toNat).toArray⟩ t'))) { s with toks := k }) := by
  refine .of_wp fun prog w A R s h => ?_
  cases b with
  | nil => exact absurd rfl hb
  | cons c cs =>
    rw [dentry_eq]
    refine wpAny_bind (wpAny_mkStr ?_ (by decide))
    refine wpAny_bind (wpAny_mkStr ?_ (by decide))
    refine wpAny_bind (wpAny_mkStr ?_ (by decide))
    exact wpAny_bind (call_function_meets KBd.kind_text KBd.plain_text KBd.entry_text (KBd.args_text _ _ _ _) (meets_text hz) (wpAny_pure ⟨_, rfl, h _ _⟩))
set_option maxRecDepth 100000 in
theorem args_decode_2 (a b : Value) : argsOk "bytes.decode" ⟨[a, b], []⟩ := by
  unfold argsOk; kernel_rfl
theorem decode_sound {x z : D} {v : Value} {u : Tok} (h : meth0 .decode x = some z) (hx : Rp own s.heap v x) : wpAny (model prog w) A (call (.builtin "bytes.decode") [v, .str (Str.ofString "latin-1") u]) (Ps own s z) E s := by
  obtain ⟨l, hl0, h⟩ := Option.bind_eq_some_iff.mp h
  obtain ⟨hz, h⟩ := ite_some h
  cases h
  cases D.bytes_some hl0
  obtain ⟨hz, hl⟩ := Bool.and_eq_true_iff.mp hz
  obtain ⟨t, rfl⟩ := hx.bytes
  exact call_meets FB.slot_bytes_decode (typeIs_bytes _ _ _) FB.entry_bytes_decode (args_decode_2 _ _) (meets_decode (size_ok hz) (by intro e; subst e; simp at hl)) (fun t' k => ⟨.mkStr, keeps_toks s k⟩)

/-- the table that translate is given -/
noncomputable def IsMap (h : Heap) (m : Value) : Prop := ∃ a vs, m = .ref a ∧ h.PlainList a (List.toArray vs) ∧ ∀ c, tame c = true → c ≠ 61 → ∃ t, vs[c]? = some (.str ⟨#[c]⟩ t)
theorem lookup_sound {m : Value} {c : Nat} {Q : Builtin.Str.Mapped → Shared → Prop} (hm : IsMap s.heap m) (hc : tame c = true) (h61 : c ≠ 61) (h : ∀ k, Q (.text ⟨#[c]⟩) { s with toks := k }) :
    wpAny (model prog w) A (Builtin.Str.tableLookup m c) Q E s := by
  obtain ⟨a, vs, rfl, hp, ht⟩ := hm
  obtain ⟨t, hv⟩ := ht c hc h61
  unfold Builtin.Str.tableLookup
  refine wpAny_bind (wpAny_attempt (wpAny_bind (wpAny_mkInt ?_)))
  have := tame_lt hc
  refine wpAny_getItem_list (s := { s with toks := s.toks + 1 }) (k := (c : Int)) (x := .str ⟨#[c]⟩ t) hp.isList (by lia) (by lia) (by simpa using hv) ?_
  show wpAny _ _ (asInt? (.str ⟨#[c]⟩ t) >>= fun r => _) _ _ _
  refine wpAny_bind (wpAny_of_eq (a := none) rfl ?_)
  show wpAny _ _ (asStr? (.str ⟨#[c]⟩ t) >>= fun r => _) _ _ _
  refine wpAny_bind (wpAny_of_eq (a := some ⟨#[c]⟩) rfl ?_)
  exact wpAny_pure (h _)
theorem fold_pieces : ∀ (l : List Nat) (acc : Array Nat), (l.map fun c => Str.mk #[c]).foldl (fun acc p => acc ++ p.cps) acc = acc ++ l.toArray
  | [], acc => by simp
  | c :: l, acc => by
    rw [List.map_cons, List.foldl_cons, fold_pieces l]
    apply Array.ext'
    simp
theorem wp_neg {α : Type} {M : Model} {A : Around} {E : Value → Shared → Prop} {s : Shared} {c : Prop} [Decidable c] {a b : Sem α} {Q : α → Shared → Prop} (hc : ¬ c) (h : wpAny M A b Q E s) : wpAny M A (if c then a else b) Q E s := by rw [if_neg hc]; exact h
theorem wp_pos {α : Type} {M : Model} {A : Around} {E : Value → Shared → Prop} {s : Shared} {c : Prop} [Decidable c] {a b : Sem α} {Q : α → Shared → Prop} (hc : c) (h : wpAny M A a Q E s) : wpAny M A (if c then a else b) Q E s := by rw [if_pos hc]; exact h
theorem meets_translate {l : List Nat} {t : Tok} {m : Value} (hz : l.length ≤ 100000) (hn : l ≠ []) (ht : ∀ c ∈ l, tame c = true ∧ c ≠ 61) :
    Meets («str.translate» ⟨[.str ⟨l.toArray⟩ t, m], []⟩) (fun _ R s => IsMap s.heap m ∧ ∀ t' k, R (.ok (.ret (.str ⟨l.toArray⟩ t'))) { s with toks := k }) := by
  have hfast : (l.toArray.all fun x => decide (x < 128)) = true := by
    simp only [List.all_toArray, List.all_eq_true, decide_eq_true_eq]
    intro x hx
    have := tame_lt (ht x hx).1
    lia
  have hlong : ∀ n, n ≤ 100000 → ¬ (Builtin.Str.tooLong n = true) := by
    intro n hn
    unfold Builtin.Str.tooLong
    rw [sizeLine_eq]; simp; lia
  refine .of_wp fun prog w A R s hS => ?_
  unfold «str.translate»
  refine wpAny_bind (wpAny_pure (a := ((.str ⟨l.toArray⟩ t, ⟨l.toArray⟩, m) : Value × Str × Value)) ?_)
  refine wp_neg (by rw [str_len]; simpa using hn) ?_
  refine wpAny_bind (wpAny_forIn_array' _ (fun rest st s' => ∃ done, done ++ rest = l ∧ st.1 = (done.map fun c => Str.mk #[c]).reverse ∧ st.2.1 = done.length ∧ st.2.2.1 = true ∧ (∀ c a, st.2.2.2.1.lookup c = some a → a = some c) ∧ st.2.2.2.2 = false ∧ ∃ k, s' = { s with toks := k })
    _ ?_ ?_ _ _ ⟨[], rfl, rfl, rfl, hfast, by intro c a h; simp at h, rfl, s.toks, rfl⟩)
  · intro x rest st s1 hI
    have hx : tame x = true ∧ x ≠ 61 := by obtain ⟨done, h1, _⟩ := hI; exact ht x (h1 ▸ List.mem_append_right _ (List.mem_cons_self ..))
    have hl : ¬ (Builtin.Str.tooLong st.2.1 = true) := by
      obtain ⟨done, h1, _, h3, _⟩ := hI
      have := congrArg List.length h1
      rw [List.length_append, List.length_cons] at this
      exact hlong _ (by rw [h3]; lia)
    have hf : st.2.2.1 = true := let ⟨_, _, _, _, h, _⟩ := hI; h
    have hkn : ∀ c a, st.2.2.2.1.lookup c = some a → a = some c := let ⟨_, _, _, _, _, h, _⟩ := hI; h
    have hm1 : IsMap s1.heap m := by obtain ⟨_, _, _, _, _, _, _, k, rfl⟩ := hI; exact hS.1
    have hnext : ∀ (kn : List (Nat × Option Nat)) (tk : Nat), (∀ c a, kn.lookup c = some a → a = some c) → ∃ done, done ++ rest = l ∧ (Str.mk #[x] :: st.1) = (done.map fun c => Str.mk #[c]).reverse ∧ st.2.1 + 1 = done.length ∧ st.2.2.1 = true ∧ (∀ c a, kn.lookup c = some a → a = some c) ∧ st.2.2.2.2 = false ∧ ∃ k, ({ s1 with toks := tk } : Shared) = { s with toks := k } := by
      intro kn tk hk
      obtain ⟨done, h1, h2, h3, h4, h5, h6, k, rfl⟩ := hI
      exact ⟨done ++ [x], by rw [List.append_assoc]; exact h1, by rw [List.map_append, List.reverse_append, h2]; rfl, by rw [List.length_append, h3]; rfl, h4, hk, h6, tk, rfl⟩
    refine wp_neg hl ?_
    refine wp_pos hf ?_
    have hcons : ∀ c a, List.lookup c ((x, some x) :: st.2.2.2.1) = some a → a = some c := by
      intro c a hc
      simp only [List.lookup_cons] at hc
      split at hc
      · rename_i he
        simp only [beq_iff_eq] at he
        subst he
        simpa using hc.symm
      · exact hkn _ _ hc
    cases hk : List.lookup x st.2.2.2.1 with
    | some a =>
      cases hkn _ _ hk
      exact wpAny_bind (wpAny_pure (wpAny_pure (hnext _ s1.toks hkn)))
    | none =>
      refine wpAny_bind (lookup_sound hm1 hx.1 hx.2 fun k' => ?_)
      have e1 : ((Str.mk #[x]).length == 1 && (Str.mk #[x]).cps.all fun x => decide (x < 128)) = true := by
        have hx128 : x < 128 := by have := tame_lt hx.1; lia
        simp [Str.length, hx128]
      have e2 : (if ((Str.mk #[x]).length == 1 && (Str.mk #[x]).cps.all fun x => decide (x < 128)) = true then some (Str.mk #[x]).cps[0]? else none) = some (some x) := if_pos e1
      show wpAny _ _ (match (if ((Str.mk #[x]).length == 1 && (Str.mk #[x]).cps.all fun x => decide (x < 128)) = true then some (Str.mk #[x]).cps[0]? else none) with | some a => _ | x => _) _ _ _
      rw [e2]
      refine wpAny_bind (wpAny_pure ?_)
      show wpAny _ _ (match (if ((Str.mk #[x]).length == 1 && (Str.mk #[x]).cps.all fun x => decide (x < 128)) = true then some (Str.mk #[x]).cps[0]? else none) with | some (some d) => _ | some none => _ | none => _) _ _ _
      rw [e2]
      exact wpAny_pure (hnext _ k' hcons)
  · intro st s1 hI
    have hl : ¬ (Builtin.Str.tooLong st.2.1 = true) := by
      obtain ⟨done, h1, _, h3, _⟩ := hI
      rw [List.append_nil] at h1
      exact hlong _ (by rw [h3, h1]; exact hz)
    have hv : List.foldl (fun (acc : Array Nat) (p : Str) => acc ++ p.cps) #[] st.1.reverse = l.toArray := by
      obtain ⟨done, h1, h2, _⟩ := hI
      rw [List.append_nil] at h1
      rw [h2, h1, List.reverse_reverse, fold_pieces, Array.empty_append]
    have hs1 : ∃ k, s1 = { s with toks := k } := let ⟨_, _, _, _, _, _, _, h⟩ := hI; h
    refine wp_neg hl ?_
    rw [hv]
    obtain ⟨k, rfl⟩ := hs1
    exact wpAny_bind (wpAny_mkStr (wpAny_pure ⟨_, rfl, hS.2 _ _⟩) (by rw [str_len]; exact size_line hz))
theorem translate_sound {x z : D} {v m : Value} (hm : IsMap s.heap m) (h : meth0 .translate x = some z) (hx : Rp own s.heap v x) : wpAny (model prog w) A (call (.builtin "str.translate") [v, m]) (Ps own s z) E s := by
  obtain ⟨l, hl0, h⟩ := Option.bind_eq_some_iff.mp h
  obtain ⟨hz, h⟩ := ite_some h
  cases h
  cases D.str_some hl0
  simp only [Bool.and_eq_true, List.all_eq_true, bne_iff_ne] at hz
  obtain ⟨⟨hz, hl⟩, ht⟩ := hz
  obtain ⟨t, rfl⟩ := hx.str
  exact call_meets F.slot_str_translate (typeIs_str _ _ _) F.entry_str_translate (F.args_str_translate_2 _ _) (meets_translate (size_ok hz) (by intro e; subst e; simp at hl) ht) ⟨hm, fun t' k => ⟨.mkStr, keeps_toks s k⟩⟩
end
end Mine

end
section
open PySem PySem.W PyProof.Rows
set_option Elab.async false
set_option maxRecDepth 100000
namespace Mine
open Sem (wp)

/-- the builtins that hold a buffer while they run -/
noncomputable def holderIds : List String := ["bytearray.__contains__", "bytearray.__mod__", "bytearray.__rmod__", "_struct.pack_into.held", "bytearray.find.held"] ++ Builtin.Bytes.decodersThatHold
noncomputable def holder : Code → Bool
  | .builtin id _ => holderIds.contains id
  | _ => false
noncomputable def Below0 (Γ : Ctx) : Prop := ∀ x ∈ Γ.below, holder x.1 = false
noncomputable def Cl (Γ : Ctx) : Prop := holder Γ.code = false ∧ Below0 Γ

/-- the logic: contexts with no holder on the stack; no exceptions -/
noncomputable def wpX {α : Type} (M : Model) (A : Around) (t : Sem α) (Q : α → Shared → Prop) (s : Shared) : Prop :=
  ∀ Γ p, Γ.In A → Cl Γ → wp M Γ t (fun a _ s' => Q a s') (fun _ _ _ => False) p s
noncomputable def codeX (M : Model) (A : Around) (c : Code) (R : Result → Shared → Prop) (s : Shared) : Prop :=
  ∀ Γ p, Γ.code = c → Γ.Below A → Below0 Γ → wpCode M Γ R p s
abbrev No : Value → Shared → Prop := fun _ _ => False

section
variable {α β : Type} {M : Model} {A : Around} {s : Shared} {env : Env}

theorem wpX.of {t : Sem α} {Q : α → Shared → Prop} (h : wpAny M A t Q No s) : wpX M A t Q s := fun Γ p hΓ _ => h Γ p hΓ
theorem codeX.of {c : Code} {R : Result → Shared → Prop} (h : codeAny M A c R s) : codeX M A c R s := fun Γ p hc hΓ _ => h Γ p hc hΓ
theorem wpX_pure {a : α} {Q : α → Shared → Prop} (h : Q a s) : wpX M A (pure a) Q s := .of (wpAny_pure h)
theorem wpX_mono {t : Sem α} {Q Q' : α → Shared → Prop} (h : wpX M A t Q s) (hQ : ∀ a s, Q a s → Q' a s) : wpX M A t Q' s :=
  fun Γ p hΓ hc => Sem.wp_mono M Γ t (fun a _ s => hQ a s) (fun _ _ _ h => h) p s (h Γ p hΓ hc)
theorem codeX_mono {c : Code} {R R' : Result → Shared → Prop} (h : codeX M A c R s) (hR : ∀ r s, R r s → R' r s) : codeX M A c R' s :=
  fun Γ p hc hΓ hb => wpCode_mono hR (h Γ p hc hΓ hb)
theorem wpX_bind {m : Sem α} {f : α → Sem β} {Q : β → Shared → Prop} (h : wpX M A m (fun a s' => wpX M A (f a) Q s') s) : wpX M A (m >>= f) Q s := fun Γ p hΓ hc => by
  rw [Sem.wp_bind']
  exact Sem.wp_mono M Γ m (fun a p' s' h' => h' Γ p' hΓ hc) (fun _ _ _ h' => h') p s (h Γ p hΓ hc)
/-- a leaf, then the rest -/
theorem wpX_leaf {m : Sem α} {f : α → Sem β} {Q : β → Shared → Prop} (h : wpAny M A m (fun a s' => wpX M A (f a) Q s') No s) : wpX M A (m >>= f) Q s := wpX_bind (.of h)
theorem wpX_eq {m : Sem α} {f : α → Sem β} {a : α} {Q : β → Shared → Prop} (e : m = pure a) (h : wpX M A (f a) Q s) : wpX M A (m >>= f) Q s := wpX_leaf (wpAny_of_eq e h)
theorem wpX_stand {pos : Pos} {f : Unit → Sem β} {Q : β → Shared → Prop} (h : wpX M A (f ()) Q s) : wpX M A (standAt pos >>= f) Q s := wpX_leaf (wpAny_standAt h)
theorem wpX_holding {vs : List Value} {m : Sem α} {Q : α → Shared → Prop} (h : wpX M A m Q s) : wpX M A (holding vs m) Q s :=
  fun Γ p hΓ hc => by rw [Sem.wp_holding]; exact h Γ p hΓ hc
theorem wpX_keep {vs : List Value} {m : Sem α} {Q : α → Shared → Prop} (h : wpX M A m Q s) : wpX M A (m.keep vs) Q s :=
  fun Γ p hΓ hc => by rw [Sem.wp_keep]; exact h Γ p hΓ hc
theorem wpX_operate {vs : List Value} {m : Sem Value} {Q : Value → Shared → Prop} (h : wpX M A m Q s) : wpX M A (operate vs m) Q s :=
  fun Γ p hΓ hc => by rw [Sem.wp_operate]; exact h Γ p hΓ hc
theorem wpX_onRaise {m : Sem α} {k : Value → Sem Unit} {Q : α → Shared → Prop} (h : wpX M A m Q s) : wpX M A (m.onRaise k) Q s := fun Γ p hΓ hc => by
  rw [Sem.wp_onRaise]
  exact Sem.wp_mono M Γ m (fun _ _ _ h' => h') (fun e p' s' h' => h'.elim) p s (h Γ p hΓ hc)
theorem Cl.enter {Γ : Ctx} (h : Cl Γ) (c : Code) (hd : Option Value) (p : Pos) : Below0 (Γ.enter c hd p) := by
  intro x hx
  rcases List.mem_cons.mp hx with rfl | hx
  · exact h.1
  · exact h.2 x hx

/-- what a call gives: a value -/
noncomputable def okV (Q : Value → Shared → Prop) : Result → Shared → Prop := fun r s' => match r with | .ok (.ret v) => Q v s' | _ => False
noncomputable def okF (Q : Flow → Shared → Prop) : Result → Shared → Prop := fun r s' => match r with | .ok f => Q f s' | .error _ => False

theorem wpX_run {c : Code} {Q : Flow → Shared → Prop} (hc : codeX M A c (okF Q) s) : wpX M A (run c none) Q s :=
  fun Γ p hΓ hcl => by
    rw [Sem.wp_run]
    have e : A.mark none = A := by cases A; rfl
    refine wpCode_mono (fun r s' hr => ?_) (hc _ p rfl (e ▸ hΓ.enter c none p (by intro x; cases x)) (hcl.enter c none p))
    cases r with
    | ok f => exact hr
    | error e => exact hr
theorem wpX_runOwn {c : Code} {Q : Flow → Shared → Prop} (hc : codeX M A c (okF Q) s) : wpX M A (runOwn c env) Q s := by
  unfold runOwn
  exact wpX_onRaise (wpX_run hc)
theorem wpX_runValue {c : Code} {Q : Value → Shared → Prop} (hc : codeX M A c (okV Q) s) : wpX M A (runValue c) Q s :=
  fun Γ p hΓ hcl => by
    rw [Sem.wp_runValue]
    have e : A.mark none = A := by cases A; rfl
    refine wpCode_mono (fun r s' hr => ?_) (hc _ p rfl (e ▸ hΓ.enter c none p (by intro x; cases x)) (hcl.enter c none p))
    cases r with
    | ok f => cases f <;> exact hr
    | error e => exact hr
theorem wpX_call {f : Value} {pos : List Value} {kw : List (Str × Value)} {Q : Value → Shared → Prop} (hc : codeX M A (.call f ⟨pos, kw⟩) (okV Q) s) : wpX M A (call f pos kw) Q s := wpX_runValue hc
theorem codeX_of_tree {c : Code} {R : Result → Shared → Prop} (hn : holder c = false)
    (h : wpX M (A.under c) (M.den c) (fun fin s' => match fin with | .done f => R (.ok f) s' | .again c' => c'.quiet = true ∧ codeX M A c' R s') s) : codeX M A c R s := fun Γ p hc hΓ hb => by
  rw [wpCode_iff_wp, hc]
  refine Sem.wp_mono M Γ _ (fun fin p' s' h' => ?_) (fun _ _ _ h' => h'.elim) p s (h Γ p (hc ▸ hΓ.in) ⟨hc ▸ hn, hb⟩)
  cases fin with
  | done f => exact h'
  | again c' => exact ⟨h'.1, h'.2 (Γ.goto c') p' rfl (hΓ.goto c') hb⟩
theorem codeX_loop {c : Code} {R : Result → Shared → Prop} (hn : holder c = false) (hq : c.quiet = true) (I : Nat → Shared → Prop)
    (turn : ∀ n s, I n s → wpX M (A.under c) (M.den c)
      (fun fin s' => match fin with
        | .done f => R (.ok f) s'
        | .again c' => (c' = c ∧ ∃ m, m < n ∧ I m s') ∨ (c'.quiet = true ∧ codeX M A c' R s')) s)
    (n : Nat) (h : I n s) : codeX M A c R s := by
  induction n using Nat.strongRecOn generalizing s with
  | ind n ih =>
    refine codeX_of_tree hn (wpX_mono (turn n s h) (fun fin s' hf => ?_))
    cases fin with
    | done f => exact hf
    | again c' =>
      rcases hf with ⟨rfl, m, hm, hI⟩ | hf
      · exact ⟨hq, ih m hm hI⟩
      · exact hf

/-! statements -/
theorem wpX_execs_nil {Q : Flow → Shared → Prop} (h : Q .next s) : wpX M A (execs [] env) Q s := wpX_pure h
theorem wpX_execs_cons {st rest} {Q : Flow → Shared → Prop}
    (h : wpX M A (PySem.exec st env) (fun f s' => match f with | .next => wpX M A (execs rest env) Q s' | f => Q f s') s) : wpX M A (execs (st :: rest) env) Q s := by
  rw [execs_cons]
  refine wpX_bind (wpX_mono h fun f s' h' => ?_)
  cases f <;> first | exact h' | exact wpX_pure h'
theorem wpX_If {test body orelse pos} {Q : Flow → Shared → Prop}
    (h : wpX M A (isTrue test env (eval test env)) (fun b s₂ => if b then wpX M A (execs body env) Q s₂ else wpX M A (execs orelse env) Q s₂) s) :
    wpX M A (PySem.exec (.If test body orelse pos) env) Q s := by
  rw [exec_If]
  refine wpX_stand (wpX_bind (wpX_mono h fun b s₂ h₂ => ?_))
  cases b <;> exact h₂
theorem wpX_Return {e pos} {Q : Flow → Shared → Prop} (h : wpX M A (eval e env) (fun v s' => Q (.ret v) s') s) : wpX M A (PySem.exec (.Return (some e) pos) env) Q s := by
  rw [exec_Return_some]
  exact wpX_stand (wpX_bind (wpX_mono h fun v s' h' => wpX_pure h'))
theorem wpX_Assign_Name {x pos' value pos} {Q : Flow → Shared → Prop} (hs : swapsWith value (some (.Name x pos')) pos.line env = pure false)
    (h : wpX M A (eval value env) (fun v s' => wpX M A (storeName env x v) (fun _ => Q .next) s') s) : wpX M A (PySem.exec (.Assign [.Name x pos'] value pos) env) Q s := by
  rw [exec_Assign_Name _ _ _ _ _ hs]
  refine wpX_stand (wpX_bind (wpX_mono h fun v s' h' => wpX_stand (wpX_bind ?_)))
  intro Γ p hΓ hc
  rw [Sem.wp_bindName]
  exact wpX_mono h' (fun _ _ q => wpX_pure q) Γ p hΓ hc
theorem wpX_AugAssign_Name {x pos' op value pos} {Q : Flow → Shared → Prop}
    (h : wpX M A (loadName env x) (fun old s₁ => wpX M A (eval value env) (fun v s₂ => wpX M A (inplaceOp op old v) (fun r s₃ => wpX M A (storeName env x r) (fun _ => Q .next) s₃) s₂) s₁) s) :
    wpX M A (PySem.exec (.AugAssign (.Name x pos') op value pos) env) Q s := by
  rw [exec_AugAssign_Name]
  refine wpX_stand (wpX_bind (wpX_mono h fun old s₁ h₁ => wpX_bind (wpX_holding (wpX_mono h₁ fun v s₂ h₂ => wpX_stand (wpX_bind (wpX_operate (wpX_mono h₂ fun r s₃ h₃ => wpX_stand (wpX_bind ?_))))))))
  intro Γ p hΓ hc
  rw [Sem.wp_bindName]
  exact wpX_mono h₃ (fun _ _ q => wpX_pure q) Γ p hΓ hc
theorem wpX_While {test body orelse pos} {Q : Flow → Shared → Prop} (h : codeX M A (.whileLoop test body orelse env) (okF Q) s) : wpX M A (PySem.exec (.While test body orelse pos) env) Q s := by
  rw [exec_While]
  exact wpX_stand (wpX_runOwn h)
theorem wpX_For {target iter body orelse pos} {Q : Flow → Shared → Prop}
    (h : wpX M A (eval iter env) (fun x s₁ => wpX M A (pyIter x) (fun it s₂ => codeX M A (.forLoop target it body orelse env) (okF Q) s₂) s₁) s)
    (hs : ∀ x, foldedSetIterable iter env x = pure x) : wpX M A (PySem.exec (.For target iter body orelse pos) env) Q s := by
  rw [exec_For]
  refine wpX_stand (wpX_bind (wpX_mono h fun x s₁ h₁ => wpX_eq (hs x) (wpX_stand (wpX_bind (wpX_holding (wpX_mono h₁ fun it s₂ h₂ => wpX_runOwn h₂))))))

/-! expressions -/
theorem wpX_BinOp {l op r pos} {Q : Value → Shared → Prop}
    (h : wpX M A (eval l env) (fun a s₁ => wpX M A (eval r env) (fun b s₂ => wpX M A (binaryOp op a b) Q s₂) s₁) s) : wpX M A (eval (.BinOp l op r pos) env) Q s := by
  rw [eval_BinOp]
  exact wpX_bind (wpX_mono h fun a s₁ h₁ => wpX_bind (wpX_holding (wpX_mono h₁ fun b s₂ h₂ => wpX_stand (wpX_operate h₂))))
theorem wpX_Compare1 {l op r pos} {Q : Value → Shared → Prop}
    (h : wpX M A (eval l env) (fun a s₁ => wpX M A (eval r env) (fun b s₂ => wpX M A (compareOp op a b) Q s₂) s₁) s) (hm : behindInMarks op r = false) : wpX M A (eval (.Compare l [op] [r] pos) env) Q s := by
  rw [eval_Compare1, markedBehindIn_of_false hm]
  exact wpX_bind (wpX_mono h fun a s₁ h₁ => wpX_bind (wpX_holding (wpX_mono h₁ fun b s₂ h₂ => wpX_stand (wpX_operate h₂))))
theorem wpX_isTrue_Compare1 {l op r pos whole} {Q : Bool → Shared → Prop}
    (h : wpX M A (eval l env) (fun a s₁ => wpX M A (eval r env) (fun b s₂ => wpX M A (compareOp op a b) (fun c s₃ => wpX M A (PySem.truthy c) Q s₃) s₂) s₁) s) (hm : behindInMarks op r = false) :
    wpX M A (isTrue (.Compare l [op] [r] pos) env whole) Q s := by
  rw [isTrue_Compare1, markedBehindIn_of_false hm]
  exact wpX_bind (wpX_mono h fun a s₁ h₁ => wpX_bind (wpX_holding (wpX_mono h₁ fun b s₂ h₂ => wpX_stand (wpX_bind (wpX_operate (wpX_mono h₂ fun c s₃ h₃ => wpX_holding h₃))))))
theorem wpX_UnaryOp {op : UnaryOp} {x : Expr} {pos : Pos} {Q : Value → Shared → Prop} (h : wpX M A (eval x env) (fun v s₁ => wpX M A (unaryOp op v) Q s₁) s) :
    wpX M A (eval (.UnaryOp op x pos) env) Q s := by
  rw [arm_eval_UnaryOp]
  exact wpX_bind (wpX_mono h fun v s₁ h₁ => wpX_stand (wpX_holding h₁))
theorem wpX_IfExp {test body orelse : Expr} {pos : Pos} {Q : Value → Shared → Prop}
    (h : wpX M A (isTrue test env (eval test env)) (fun b s₁ => if b then wpX M A (eval body env) Q s₁ else wpX M A (eval orelse env) Q s₁) s) : wpX M A (eval (.IfExp test body orelse pos) env) Q s := by
  rw [arm_eval_IfExp]
  refine wpX_bind (wpX_mono h fun b s₁ h₁ => ?_)
  cases b <;> exact h₁
theorem wpX_isTrue_Not {x : Expr} {pos : Pos} {whole : Sem Value} {Q : Bool → Shared → Prop} (h : wpX M A (isTrue x env (eval x env)) (fun b s₁ => Q (!b) s₁) s) :
    wpX M A (isTrue (.UnaryOp .Not x pos) env whole) Q s := by
  rw [arm_isTrue_UnaryOp]
  exact wpX_bind (wpX_mono h fun b s₁ h₁ => wpX_pure h₁)
theorem wpX_isTrue_value {e : Expr} {whole : Sem Value} {Q : Bool → Shared → Prop} (h : wpX M A whole (fun v s₁ => wpX M A (PySem.truthy v) Q s₁) s)
    (he : isTrue e env whole = (do let v ← whole; standAt e.pos; holding [v] (PySem.truthy v))) : wpX M A (isTrue e env whole) Q s := by
  rw [he]
  exact wpX_bind (wpX_mono h fun v s₁ h₁ => wpX_stand (wpX_holding h₁))
theorem wpX_isTrue_BoolOp {op : BoolOp} {values : List Expr} {pos : Pos} {whole : Sem Value} {Q : Bool → Shared → Prop} (h : wpX M A (allTrue op values env) Q s) :
    wpX M A (isTrue (.BoolOp op values pos) env whole) Q s := by rw [arm_isTrue_BoolOp]; exact h
theorem wpX_allTrue_nil {Q : Bool → Shared → Prop} (h : Q true s) : wpX M A (allTrue .And [] env) Q s := wpX_pure h
theorem wpX_allTrue_cons {x : Expr} {rest : List Expr} {Q : Bool → Shared → Prop}
    (h : wpX M A (isTrue x env (eval x env)) (fun b s₁ => if b then wpX M A (allTrue .And rest env) Q s₁ else Q false s₁) s) : wpX M A (allTrue .And (x :: rest) env) Q s := by
  show wpX M A (do match BoolOp.And, ← isTrue x env (eval x env) with | .And, false => pure false | .Or, true => pure true | _, _ => allTrue .And rest env) Q s
  refine wpX_bind (wpX_mono h fun b s₁ h₁ => ?_)
  cases b
  · exact wpX_pure h₁
  · exact h₁
theorem wpX_items_nil {pos : Pos} {Q : List Value → Shared → Prop} (h : Q [] s) : wpX M A (spliced (backTo pos (starEach [] env))) Q s := wpX_pure h
theorem wpX_items_cons {pos : Pos} {e : Expr} {rest : List Expr} {Q : List Value → Shared → Prop}
    (h : wpX M A (eval e env) (fun v s₁ => wpX M A (spliced (backTo pos (starEach rest env))) (fun vs s₂ => Q (v :: vs) s₂) s₁) s)
    (he : starEach (e :: rest) env = (false, eval e env) :: starEach rest env) : wpX M A (spliced (backTo pos (starEach (e :: rest) env))) Q s := by
  rw [he]
  show wpX M A (do
    let v ← eval e env
    let here ← (pure [v] : Sem (List Value))
    return here ++ (← holding here (spliced (backTo pos (starEach rest env))))) Q s
  exact wpX_bind (wpX_mono h fun v s₁ h₁ => wpX_bind (wpX_pure (wpX_bind (wpX_holding (wpX_mono h₁ fun vs s₂ h₂ => wpX_pure h₂)))))
theorem wpX_List {elts : List Expr} {pos : Pos} {Q : Value → Shared → Prop}
    (h : wpX M A (spliced (backTo pos (starEach elts env)))
      (fun vs s₁ => vs.length ≤ sizeLine ∧ Q (.ref s₁.heap.objs.size) { s₁ with heap := s₁.heap.push { cls := .type "list", data := .seq vs.toArray } }) s) : wpX M A (eval (.List elts pos) env) Q s := by
  rw [arm_eval_List]
  exact wpX_stand (wpX_bind (wpX_mono h fun vs s₁ h₁ => .of (wpAny_newObj_type h₁.2 (by show vs.toArray.size ≤ sizeLine; rw [List.size_toArray]; exact h₁.1))))
theorem wpX_Tuple {elts : List Expr} {k : Nat} {pos : Pos} {Q : Value → Shared → Prop}
    (h : wpX M A (spliced (backTo pos (starEach elts env)))
      (fun vs s₁ => vs.length ≤ sizeLine ∧ Q (.ref s₁.heap.objs.size) { s₁ with heap := s₁.heap.push { cls := .type "tuple", data := .seq vs.toArray } }) s) : wpX M A (eval (.Tuple elts k pos) env) Q s := by
  rw [arm_eval_Tuple]
  exact wpX_stand (wpX_bind (wpX_mono h fun vs s₁ h₁ => .of (wpAny_newObj_type h₁.2 (by show vs.toArray.size ≤ sizeLine; rw [List.size_toArray]; exact h₁.1))))

/-! calls -/
theorem evalArgsX {f : Value} {x : Sem Value} {rest : List (Bool × Sem Value)} {Q : Args → Shared → Prop}
    (h : wpX M A (spliced ((false, x) :: rest)) (fun vs s' => Q ⟨vs, []⟩ s') s) : wpX M A (evalArgs f true ((false, x) :: rest) []) Q s := by
  unfold evalArgs
  show wpX M A (spliced ((false, x) :: rest) >>= _) Q s
  refine wpX_bind (wpX_mono h fun vs s' h' => ?_)
  refine wpX_holding ?_
  exact wpX_bind (wpX_pure (wpX_bind (wpX_pure (wpX_pure h'))))
theorem tailX {t : Sem Value} {Q : Value → Shared → Prop} (h : wpX M A t Q s) : wpX M A (t >>= fun r => holding [r] point >>= fun _ => pure r) Q s :=
  wpX_bind (wpX_mono h fun _ _ hr => wpX_bind (wpX_holding (.of (wpAny_point (wpX_pure hr)))))
theorem callWithX_builtin {pos : Pos} {id : String} {first : List Value} {args : List (Bool × Sem Value)} {Q : Value → Shared → Prop} (hplain : args.any (·.1) = false)
    (h : wpX M A (evalArgs (.builtin id) true args []) (fun a s₁ => wpX M A (call (.builtin id) (first ++ a.pos) a.kw) Q s₁) s) :
    wpX M A (callWith pos (.builtin id) first args []) Q s := by
  unfold callWith
  refine wpX_bind (wpX_holding (wpX_mono h fun a s₁ h₁ => wpX_stand ?_))
  simp only [hplain, List.any_nil, Bool.or_false]
  exact wpX_bind (wpX_pure (tailX h₁))
theorem callWithX_type {pos : Pos} {T : String} {first : List Value} {args : List (Bool × Sem Value)} {Q : Value → Shared → Prop} (hplain : args.any (·.1) = false)
    (h : wpX M A (evalArgs (.type T) true args []) (fun a s₁ => wpX M A (call (.type T) (first ++ a.pos) a.kw) Q s₁) s) :
    wpX M A (callWith pos (.type T) first args []) Q s := by
  unfold callWith
  refine wpX_bind (wpX_holding (wpX_mono h fun a s₁ h₁ => wpX_stand ?_))
  simp only [hplain, List.any_nil, Bool.or_false]
  exact wpX_bind (wpX_pure (tailX h₁))
theorem callWithX_function {pos : Pos} {a : Addr} {o : Obj} {fd : FuncData} {first : List Value} {args : List (Bool × Sem Value)} {Q : Value → Shared → Prop}
    (h : wpX M A (evalArgs (.ref a) true args []) (fun x s₁ => (s₁.heap.get? a = some o ∧ o.data = .func fd) ∧ wpX M A (call (.ref a) (first ++ x.pos) x.kw) Q s₁) s) :
    wpX M A (callWith pos (.ref a) first args []) Q s := by
  unfold callWith
  refine wpX_bind (wpX_holding (wpX_mono h fun x s₁ h₁ => wpX_stand ?_))
  cases hs : args.any (·.1) <;> simp only [List.any_nil, Bool.or_false] <;>
    refine wpX_bind (m := keeperOf (.ref a)) ?_ <;> unfold keeperOf <;>
    refine wpX_leaf (wpAny_load h₁.1.1 ?_) <;> rw [h₁.1.2] <;> refine wpX_pure ?_
  all_goals
    repeat' split
  all_goals first
      | exact tailX h₁.2
      | (refine tailX ?_; unfold callMarked; exact wpX_keep h₁.2)
      | contradiction
theorem wpX_Call_ofName {x : Str} {np pos : Pos} {args : List Expr} {Q : Value → Shared → Prop}
    (h : wpX M A (eval (.Name x np) env) (fun f s₁ => wpX M A (callWith pos f [] (backTo pos (starEach args env)) []) Q s₁) s) :
    wpX M A (eval (.Call (.Name x np) args [] pos) env) Q s := by
  show wpX M A (do callWith pos (← eval (.Name x np) env) [] (backTo pos (starEach args env)) (backToKw pos (keywordEach [] env))) Q s
  exact wpX_bind h
end

section
variable {prog : Program} {w : World} {A : Around} {s : Shared} {env : Env}
theorem codeX_func {body env} {R : Result → Shared → Prop}
    (h : wpX (model prog w) (A.deeper env) (execs body env) (fun f s' => R (.ok (.ret (match f with | .ret v => v | _ => .none))) s') s) : codeX (model prog w) A (.func body env) R s := by
  refine codeX_of_tree rfl ?_
  show wpX _ (A.deeper env) (do point; match ← (execs body env).onRaise (leaving env) with | .ret v => ret v | _ => ret .none) _ s
  refine wpX_leaf (wpAny_point (wpX_bind (wpX_onRaise (wpX_mono h fun f s' h' => ?_))))
  cases f <;> exact wpX_pure h'
theorem codeX_call_function {a : Addr} {args : Args} {o : Obj} {fd : FuncData} {body : List Stmt} {R : Result → Shared → Prop} (hroom : A.depth < recursionLimit)
    (ho : s.heap.get? a = some o) (hd' : o.data = .func fd) (hco : fd.scope.isCoroutine = false) (hgen : fd.scope.isGenerator = false) (hbody : fd.body = .stmts body) (hcd : s.heap.CodeRec fd.code fd.qualname)
    (h : wpX (model prog w) A.in1 (bindArgs fd args) (fun binds s₁ =>
      wpX (model prog w) A.in1 (newFunctionEnv fd.scope fd.globals fd.closure binds (fd.qualname ++ ".<locals>.") (some a) fd.code none fd.builtins)
        (fun env s₂ => s₂.heap.NoLimit ∧ codeX (model prog w) A (.func body env) R s₂) s₁) s) :
    codeX (model prog w) A (.call (.ref a) args) R s := by
  refine codeX_of_tree rfl ?_
  show wpX _ A.in1 (callAny (.ref a) args) _ s
  simp only [callAny]
  refine wpX_leaf (wpAny_load ho ?_)
  obtain ⟨c, oc, vs, tq, hc, hoc, hdc, hq⟩ := hcd
  simp only [hd', callFunction, hco, hgen, hbody, hc]
  rw [hc] at h
  refine wpX_leaf (m := field (.ref c) 1) (wpAny_field hoc hdc hq (wpX_bind (wpX_pure ?_)))
  exact wpX_bind (wpX_mono h fun binds s₁ h₁ => wpX_bind (wpX_mono h₁ fun env s₂ h₂ => wpX_leaf (wpAny_enterFrame h₂.1 hroom (wpX_pure (And.intro rfl h₂.2)))))
theorem codeX_call_cells {R : Result → Shared → Prop} {a : Addr} {o : Obj} {fd : FuncData} {body : List Stmt} {vals : List Value} {binds : List (Str × Value)}
    (hroom : A.depth < recursionLimit) (ho : s.heap.get? a = some o) (hdata : o.data = .func fd) (hlim : s.heap.NoLimit) (hcd : s.heap.CodeRec fd.code fd.qualname)
    (hbody : fd.body = .stmts body) (hbind : bindArgs fd ⟨vals, []⟩ = pure binds) (hclo : fd.closure = [])
    (hkind : ∀ x ∈ binds, fd.scope.names.lookup x.1 = some .local ∨ (fd.scope.names.lookup x.1 = some .cell ∧ ((cellsFrom (s.heap.objs.size + 1) fd.scope.names []).lookup x.1).isSome = true))
    (h : ∀ s₁, InCallC s (callEnvC fd s.heap.objs.size a).locals (bindL (callEnvC fd s.heap.objs.size a).kindOf binds fun _ => none) (callEnvC fd s.heap.objs.size a).cells
        (bindC (callEnvC fd s.heap.objs.size a).kindOf binds fun _ => none) s₁ →
      wpX (model prog w) (A.deeper (callEnvC fd s.heap.objs.size a)) (execs body (callEnvC fd s.heap.objs.size a)) (fun f s' => R (.ok (.ret (match f with | .ret v => v | _ => .none))) s') s₁)
    (hco : fd.scope.isCoroutine = false) (hgen : fd.scope.isGenerator = false) (hk : fd.scope.kind = .function) :
    codeX (model prog w) A (.call (.ref a) ⟨vals, []⟩) R s := by
  refine codeX_call_function hroom ho hdata hco hgen hbody hcd ?_
  rw [hbind, hclo]
  refine wpX_pure (.of (wpAny_newFunctionEnv_cells hk hkind fun env he s' x => ?_))
  subst he
  exact ⟨hlim.keeps x.toInCall.keep, codeX_func (h s' x)⟩
theorem codeX_block {stmts : List Stmt} {env : Env} {R : Result → Shared → Prop} (h : wpX (model prog w) A (execs stmts env) (fun f s' => R (.ok f) s') s) : codeX (model prog w) A (.block stmts env) R s := by
  refine codeX_of_tree rfl ?_
  show wpX _ _ (do return Fin.done (← (execs stmts env).onRaise (fun x => do noteFrame x env; theTreesLotGoes x))) _ s
  exact wpX_bind (wpX_onRaise (wpX_mono h fun f s' h' => wpX_pure h'))
theorem codeX_forLoop {R : Result → Shared → Prop} {target it body env} (I : Nat → Shared → Prop)
    (turn : ∀ n s, I n s → wpX (model prog w) A (pyNext it) (fun r s₁ => match r with
      | none => R (.ok .next) s₁
      | some v => wpX (model prog w) A (assign target env v) (fun _ s₂ => wpX (model prog w) A (execs body env) (fun f s₃ => match f with
          | .next | .cont => ∃ m, m < n ∧ I m s₃
          | .brk => R (.ok .next) s₃
          | .ret v => R (.ok (.ret v)) s₃) s₂) s₁) s)
    (n : Nat) (h : I n s) (ht : ∀ v, letOwnedTupleGo target it v = pure ()) : codeX (model prog w) A (.forLoop target it body [] env) R s := by
  refine codeX_loop rfl rfl I (fun n s hI => ?_) n h
  show wpX _ A ((forTurn target it body [] env).onRaise (fun x => do noteFrame x env; theTreesLotGoes x)) _ s
  refine wpX_onRaise ?_
  simp only [forTurn]
  refine wpX_stand (wpX_bind (wpX_onRaise (wpX_mono (turn n s hI) fun r s₁ h₁ => ?_)))
  cases r with
  | none => exact wpX_pure (.inr ⟨rfl, codeX_block (wpX_execs_nil h₁)⟩)
  | some v =>
    refine wpX_eq (ht v) ?_
    refine wpX_bind (wpX_mono h₁ fun _ s₂ h₂ => wpX_bind (wpX_mono h₂ fun f s₃ h₃ => ?_))
    cases f with
    | next => exact wpX_pure (.inl ⟨rfl, h₃⟩)
    | cont => exact wpX_pure (.inl ⟨rfl, h₃⟩)
    | brk => exact wpX_pure h₃
    | ret v => exact wpX_pure h₃
theorem codeX_whileLoop {R : Result → Shared → Prop} {test body env} (I : Nat → Shared → Prop)
    (turn : ∀ n s, I n s → wpX (model prog w) A (isTrue test env (eval test env)) (fun b s₂ =>
        if b then wpX (model prog w) A (execs body env) (fun f s₃ => match f with
            | .next | .cont => ∃ m, m < n ∧ I m s₃
            | .brk => R (.ok .next) s₃
            | .ret v => R (.ok (.ret v)) s₃) s₂
        else R (.ok .next) s₂) s)
    (n : Nat) (h : I n s) : codeX (model prog w) A (.whileLoop test body [] env) R s := by
  refine codeX_loop rfl rfl I (fun n s hI => ?_) n h
  show wpX _ A ((whileTurn test body [] env).onRaise (fun x => do noteFrame x env; theTreesLotGoes x)) _ s
  refine wpX_onRaise ?_
  simp only [whileTurn]
  refine wpX_bind (wpX_mono (turn n s hI) fun b s₂ h₂ => ?_)
  cases b with
  | false =>
    simp only [Bool.false_eq_true, if_false] at h₂ ⊢
    exact wpX_bind (wpX_execs_nil (wpX_pure h₂))
  | true =>
    simp only [if_true] at h₂ ⊢
    refine wpX_bind (wpX_mono h₂ fun f s₃ h₃ => ?_)
    cases f with
    | next => exact wpX_pure (.inl ⟨rfl, h₃⟩)
    | cont => exact wpX_pure (.inl ⟨rfl, h₃⟩)
    | brk => exact wpX_pure h₃
    | ret v => exact wpX_pure h₃
end
end Mine

end
section
open PySem PySem.W PyProof.Rows
set_option Elab.async false
set_option maxRecDepth 100000
namespace Mine
open Builtin

theorem ba_mro : mroOf (.type "bytearray") = pure [.type "bytearray", .type "object"] := by rw [mroOf_type]; kernel_rfl
theorem ba_lookup_new : typeLookup (.type "bytearray") "__new__" = pure (some (.builtin "bytearray.__new__")) := by rw [typeLookup_type, builtinLookup_eq_fast]; kernel_rfl
theorem ba_slot_init : Slot "bytearray" "__init__" "bytearray.__init__" :=
  .of (owner := "bytearray") (n := "__init__") (by rw [typeLookup_type, builtinLookup_eq_fast]; kernel_rfl) (by decide +kernel) (by decide +kernel) (by decide +kernel)
    (by first | exact .inl (by decide +kernel) | exact .inr (by decide +kernel)) (by rw [isSubtype_type]; kernel_rfl)
theorem ba_called : TypeCalled "bytearray" "bytearray.__new__" "bytearray.__init__" :=
  ⟨by decide +kernel, by decide +kernel, ⟨_, _, ba_mro⟩, madeBy_type ba_mro ba_lookup_new (by decide +kernel), by decide +kernel, by rw [isSubtype_type]; kernel_rfl, ba_slot_init⟩
theorem ba_typeCall (a : Value) : checkTypeCall "bytearray" ⟨[a], []⟩ = pure () := by kernel_rfl
theorem ba_newCall (a : Value) : checkBuiltinCall "bytearray.__new__" ⟨[.type "bytearray", a], []⟩ = pure () := by kernel_rfl
theorem ba_initArgs (a b : Value) : argsOk "bytearray.__init__" ⟨[a, b], []⟩ := by unfold argsOk; kernel_rfl
theorem ba_entry_new : entryFor table "bytearray.__new__" = some Builtin.«list.__new__» := entryFor_alias (id' := "list.__new__") (by rw [fastTable_eq_tree]; kernel_rfl) (by first | rfl | decide +kernel) (by decide +kernel) (by rw [fastTable_eq_tree]; kernel_rfl)
theorem ba_entry_init : entryFor table "bytearray.__init__" = some Builtin.«bytearray.__init__» := entryFor_of_tree (by kernel_rfl)
theorem ba_plain_new : plainId "bytearray.__new__" = true := by decide +kernel
set_option maxRecDepth 1000000 in
set_option maxHeartbeats 4000000 in
theorem ba_owner : ("bytearray.__new__".splitOn ".__new__").headD "" = "bytearray" := by simp +decide [String.splitOn, String.splitOnAux]
theorem ba_sub : isSubtype (.type "bytearray") (.type "bytearray") = pure true := by rw [isSubtype_type]; kernel_rfl
theorem ba_bind (v : Value) : Bytes.bindOptional "bytearray.__init__" "bytearray" ["source", "encoding", "errors"] [v] [] = pure [some v, none, none] := by kernel_rfl

section
variable {prog : Program} {w : World} {A : Around} {E : Value → Shared → Prop} {s : Shared}
abbrev baObj (l : List UInt8) (n : Nat := 0) : Obj := { cls := .type "bytearray", data := .bytearray l.toArray n }
theorem code_ba_new (a : Value) {Q₁ : Value → Shared → Prop}
    (h : Q₁ (.ref s.heap.objs.size) { s with heap := s.heap.push (baObj []) }) :
    codeAny (model prog w) A (.call (.builtin "bytearray.__new__") ⟨[.type "bytearray", a], []⟩) (wants Q₁ E) s := by
  refine codeAny_of_tree ?_
  show wpAny _ A.in1 (do checkBuiltinCall "bytearray.__new__" ⟨[.type "bytearray", a], []⟩; again (.builtin "bytearray.__new__" ⟨[.type "bytearray", a], []⟩)) _ _ s
  refine wpAny_bind (wpAny_of_eq (ba_newCall a) (wpAny_pure ⟨plainId_quiet ba_plain_new _, codeAny_builtin_stack ba_entry_new rfl fun p st => ?_⟩))
  rw [Around.under_plainId ba_plain_new _]
  have hsub := ba_sub
  have hown := ba_owner
  obtain ⟨hp, g, d, tk, os⟩ := s
  simp only [hown]
  wp_walk
  exact h

theorem ba_noRelease : typeLookup (.type "bytearray") "__release_buffer__" = pure (some (.builtin "bytearray.__release_buffer__")) := by rw [typeLookup_type, builtinLookup_eq_fast]; kernel_rfl
theorem ba_typeIs {a : Addr} {o : Obj} (h : s.heap.get? a = some o) (hc : o.cls = .type "bytearray") : s.TypeIs (.ref a) "bytearray" := ⟨o, h, hc⟩
theorem ownRelease_ba {M : Model} {a : Addr} {Q : Bool → Shared → Prop} (hT : s.TypeIs (.ref a) "bytearray") (h : Q false s) : wpAny M A (Bytes.ownRelease (.ref a)) Q E s := by
  unfold Bytes.ownRelease Bytes.slotIsOwn
  refine wpAny_bind (wpAny_bind (wpAny_specialOf hT ba_noRelease ?_))
  have e1 : ("bytearray.__release_buffer__".endsWith ("." ++ "__release_buffer__")) = true := by decide +kernel
  have e2 : "bytearray.__release_buffer__".dropRight ("__release_buffer__".length + 1) = "bytearray" := by decide +kernel
  simp only [e1, Bool.not_true, Bool.false_eq_true, if_false, e2]
  exact wpAny_isInstance hT ba_sub (wpAny_pure h)
theorem exported_no {M : Model} {v : Value} {Q : Bool → Shared → Prop} (h : Q false s) : wpX M A (Bytes.exported v) Q s := by
  unfold Bytes.exported
  intro Γ p hΓ hc
  show Q (List.any ((Γ.code, p) :: Γ.below) _) s
  have hf : ∀ x ∈ (Γ.code, p) :: Γ.below, holder x.1 = false := by
    intro x hx
    rcases List.mem_cons.mp hx with rfl | hx
    · exact hc.1
    · exact hc.2 x hx
  rw [List.any_eq_false.mpr]
  · exact h
  · intro x hx
    have hn := hf x hx
    obtain ⟨c, q⟩ := x
    cases c with
    | builtin id args =>
      have hn : holderIds.contains id = false := hn
      have n : ∀ i, holderIds.contains i = true → ¬ id = i := fun i hi e => by rw [e, hi] at hn; cases hn
      have hd : Bytes.decodersThatHold.contains id = false := by
        cases hh : Bytes.decodersThatHold.contains id with
        | false => rfl
        | true => exact absurd rfl (n id (List.contains_iff_mem.mpr (List.mem_append_right _ (List.contains_iff_mem.mp hh))))
      refine Bool.eq_false_iff.mp ?_
      delta Bytes.exported.match_1 Bytes.exported._sparseCasesOn_1
      dsimp only
      refine (dif_neg (n "bytearray.__contains__" (by decide +kernel))).trans ?_
      refine (dif_neg (n "bytearray.__mod__" (by decide +kernel))).trans ?_
      refine (dif_neg (n "bytearray.__rmod__" (by decide +kernel))).trans ?_
      refine (dif_neg (n "_struct.pack_into.held" (by decide +kernel))).trans ?_
      refine (dif_neg (n "bytearray.find.held" (by decide +kernel))).trans ?_
      obtain ⟨pos, kw⟩ := args
      cases pos with
      | nil => rfl
      | cons v r => exact (congrArg _ hd).trans (Bool.and_false _)
    | _ => exact Bool.false_ne_true
theorem write_ba {M : Model} {a : Addr} {l : List UInt8} {n : Nat} {f : Array UInt8 → Array UInt8} {m : List UInt8} {Q : Unit → Shared → Prop} (ho : s.heap.get? a = some (baObj l n)) (hf : f l.toArray = m.toArray) (hz : m.length ≤ 100000)
    (h : ∀ h', h'.get? a = some (baObj m n) → h'.objs.size = s.heap.objs.size → (∀ b, b ≠ a → h'.get? b = s.heap.get? b) → Q () { s with heap := h' }) : wpAny M A (Bytes.write (.ref a) f) Q E s := by
  show wpAny _ _ (updateBytearray a f) _ _ s
  unfold updateBytearray
  refine wpAny_bind (wpAny_load ho ?_)
  show wpAny _ _ (update a (Obj.mapBytearray f) >>= fun _ => lookBehind a) _ _ _
  refine wpAny_bind (wpAny_update ho ?_)
  have h2 : (s.heap.update a (Obj.mapBytearray f)).get? a = some (baObj m n) := by
    have := Heap.get?_update_self (Obj.mapBytearray f) ho rfl
    rw [this]
    show some ({ cls := .type "bytearray", data := .bytearray (f l.toArray) n } : Obj) = _
    rw [hf]
  have hsb : Heap.SameBut a s.heap (s.heap.update a (Obj.mapBytearray f)) := Heap.SameBut.update ..
  refine wpAny_lookBehind h2 ?_ (h _ h2 hsb.1 hsb.2)
  show (if m.toArray.size > sizeLine then some "bytearray:memory" else none) = none
  rw [if_neg]
  rw [sizeLine_eq]; simp; lia

theorem lookup_int_index : typeLookup (.type "int") "__index__" = pure (some (.builtin "int.__index__")) := by rw [typeLookup_type, builtinLookup_eq_fast]; kernel_rfl
/-- the init of a new bytearray with a count -/
theorem wpX_neg {α : Type} {M : Model} {A : Around} {s : Shared} {c : Prop} [Decidable c] {a b : Sem α} {Q : α → Shared → Prop} (hc : ¬ c) (h : wpX M A b Q s) : wpX M A (if c then a else b) Q s := by rw [if_neg hc]; exact h
theorem wpX_pos {α : Type} {M : Model} {A : Around} {s : Shared} {c : Prop} [Decidable c] {a b : Sem α} {Q : α → Shared → Prop} (hc : c) (h : wpX M A a Q s) : wpX M A (if c then a else b) Q s := by rw [if_pos hc]; exact h
theorem not_true_of {b : Bool} (h : b = false) : ¬ (b = true) := by rw [h]; exact Bool.false_ne_true
theorem exp_no {a : Addr} (ho : s.heap.get? a = some (baObj [])) : wpX (model prog w) A (orM (Bytes.exported (.ref a)) (do pure (decide ((← Bytes.exportsOf (.ref a)) > 0)))) (fun b s' => b = false ∧ s' = s) s := by
  unfold orM
  refine wpX_bind (exported_no ?_)
  show wpX _ _ (Bytes.exportsOf (.ref a) >>= fun n => pure (decide (n > 0))) _ s
  refine wpX_leaf ?_
  show wpAny _ _ (load a >>= fun o => _) _ _ s
  exact wpAny_bind (wpAny_load ho (wpAny_pure (wpX_pure ⟨rfl, rfl⟩)))
theorem init_ba {a : Addr} {n : Int} {t : Tok} {Q : Fin → Shared → Prop} (ho : s.heap.get? a = some (baObj [])) (h0 : 0 ≤ n) (h1 : n ≤ 100000)
    (h : ∀ h', h'.get? a = some (baObj (List.replicate n.toNat 0)) → h'.objs.size = s.heap.objs.size → (∀ b, b ≠ a → h'.get? b = s.heap.get? b) → Q (.done (.ret .none)) { s with heap := h' }) :
    wpX (model prog w) A («bytearray.__init__» ⟨[.ref a, .int n t], []⟩) Q s := by
  unfold «bytearray.__init__»
  refine wpX_leaf (ownRelease_ba (ba_typeIs ho rfl) ?_)
  refine wpX_neg Bool.false_ne_true ?_
  refine wpX_eq (ba_bind _) ?_
  refine wpX_eq (a := ()) rfl ?_
  refine wpX_eq (a := ()) rfl ?_
  have hf : ¬ ((!Bytes.fitsIndex n) = true) := by unfold Bytes.fitsIndex; simp; lia
  have hlong : ¬ (Bytes.tooLong n.toNat = true) := by unfold Bytes.tooLong; rw [sizeLine_eq]; simp; lia
  refine wpX_bind (wpX_mono (exp_no ho) ?_)
  · rintro _ _ ⟨rfl, rfl⟩
    refine wpX_neg Bool.false_ne_true ?_
    refine wpX_leaf (write_ba (m := []) ho rfl (by simp) fun h1 g1 z1 k1 => ?_)
    refine wpX_eq (a := none) rfl ?_
    refine wpX_neg Bool.false_ne_true ?_
    refine wpX_eq (a := ()) rfl ?_
    refine wpX_leaf (wpAny_specialOf (typeIs_int _ _ _) lookup_int_index ?_)
    refine wpX_pos rfl ?_
    refine wpX_leaf (wpAny_attempt (wpAny_of_eq (a := n) rfl ?_))
    refine wpX_neg hf ?_
    refine wpX_neg (by lia) ?_
    refine wpX_neg (by simp; lia) ?_
    refine wpX_neg hlong ?_
    refine wpX_leaf (wpAny_rule ?_)
    by_cases hn : n > 0
    · refine wpX_pos hn ?_
      refine wpX_leaf (write_ba (m := List.replicate n.toNat 0) g1 (by simp) (by simp; lia) fun h2 g2 z2 k2 => ?_)
      exact wpX_pure (h _ g2 (z2.trans z1) fun b hb => (k2 b hb).trans (k1 b hb))
    · refine wpX_neg hn ?_
      have : n = 0 := by lia
      subst this
      exact wpX_pure (h _ g1 z1 k1)

theorem codeX_builtin {id : String} {args : Args} {b : Builtin} {R : Result → Shared → Prop} (hn : holderIds.contains id = false) (hb : entryFor table id = some b)
    (h : wpX (model prog w) (A.under (.builtin id args)) (b args) (fun fin s' => match fin with | .done f => R (.ok f) s' | .again c' => c'.quiet = true ∧ codeX (model prog w) A c' R s') s) :
    codeX (model prog w) A (.builtin id args) R s := by
  refine codeX_of_tree hn ?_
  show wpX _ _ (match entryFor table id with | some b => b args | none => unsupported ((withoutEnding? id "#data").getD id)) _ s
  rw [hb]; exact h
theorem codeX_call_builtin {id : String} {args : Args} {b : Builtin} {R : Result → Shared → Prop} (hn : holderIds.contains id = false) (hq : plainId id = true) (hb : entryFor table id = some b)
    (h : wpAny (model prog w) A.in1 (checkBuiltinCall id args) (fun _ s₁ => wpX (model prog w) A.in1 (b args)
      (fun fin s' => match fin with | .done f => R (.ok f) s' | .again c' => c'.quiet = true ∧ codeX (model prog w) A c' R s') s₁) No s) : codeX (model prog w) A (.call (.builtin id) args) R s := by
  refine codeX_of_tree rfl ?_
  show wpX _ A.in1 (do checkBuiltinCall id args; again (.builtin id args)) _ s
  refine wpX_leaf (wpAny_mono h (fun _ s₁ h₁ => wpX_pure ⟨plainId_quiet hq args, codeX_builtin hn hb (by rw [Around.under_plainId hq args]; exact h₁)⟩) fun _ _ x => x)

theorem call_ba {n : Int} {t : Tok} {Q : Value → Shared → Prop} (h0 : 0 ≤ n) (h1 : n ≤ 100000)
    (h : ∀ h', h'.get? s.heap.objs.size = some (baObj (List.replicate n.toNat 0)) → Ext s.heap h' → Q (.ref s.heap.objs.size) { s with heap := h' }) :
    wpX (model prog w) A (call (.type "bytearray") [.int n t]) Q s := by
  refine wpX_call (codeX_of_tree rfl ?_)
  show wpX _ _ (callAny (.type "bytearray") _) _ _
  refine wpX_pure ⟨Code.quiet_builtin _ (by decide +kernel), codeX_builtin (by decide +kernel) F.entry_type_call ?_⟩
  rw [Around.under_plain (weight_type_call_type _ _ []) rfl]
  unfold «type.__call__»
  dsimp only
  rw [if_neg (by rw [ba_called.notType]; exact Bool.false_ne_true)]
  rw [if_neg (by rw [ba_called.canCreate]; exact Bool.false_ne_true)]
  refine wpX_eq (ba_typeCall _) ?_
  refine wpX_eq ba_mro ?_
  simp only [List.isEmpty_cons, Bool.false_eq_true, if_false]
  refine wpX_eq ba_called.made ?_
  refine wpX_bind (wpX_pure ?_)
  refine wpX_bind (wpX_holding (wpX_call (codeX_mono (.of (code_ba_new _ (E := No) (Q₁ := fun v s' => v = .ref s.heap.objs.size ∧ s' = { s with heap := s.heap.push (baObj []) }) ⟨rfl, rfl⟩)) ?_)))
  intro r s' hr
  cases r with
  | error e => exact hr.elim
  | ok f =>
    cases f with
    | ret v =>
      obtain ⟨rfl, rfl⟩ := hr
      show wpX _ _ _ _ _
      have g0 : (s.heap.push (baObj [])).get? s.heap.objs.size = some (baObj []) := Heap.get?_push_size _ rfl
      have hT : ({ s with heap := s.heap.push (baObj []) } : Shared).TypeIs (.ref s.heap.objs.size) "bytearray" := ⟨_, g0, rfl⟩
      refine wpX_leaf (wpAny_isInstance hT ba_sub ?_)
      simp only [Bool.not_true, Bool.false_eq_true, if_false]
      refine wpX_bind (wpX_holding ?_)
      simp only [callSpecial?]
      refine wpX_leaf (wpAny_specialOf hT ba_slot_init.lookup ?_)
      simp only [ba_slot_init.bind]
      refine wpX_holding (wpX_bind (wpX_pure (wpX_bind (wpX_call (codeX_call_builtin (by decide +kernel) ba_slot_init.plain ba_entry_init
        (ba_slot_init.check _ _ _ _ _ _ _ _ hT (ba_initArgs _ _) (init_ba g0 h0 h1 fun h' g' z' k' => ?_)))))))
      show wpX _ _ _ _ _
      refine wpX_pure ?_
      refine wpX_pure ?_
      refine h h' g' fun b o hb => ?_
      rw [k' b (Nat.ne_of_lt (Heap.lt_size hb))]
      exact Heap.get?_push_of_some _ hb
    | _ => exact hr.elim

/-! the item store -/
theorem slot_ba_setitem : Slot "bytearray" "__setitem__" "bytearray.__setitem__" :=
  .of (owner := "bytearray") (n := "__setitem__") (by rw [typeLookup_type, builtinLookup_eq_fast]; kernel_rfl) (by decide +kernel) (by decide +kernel) (by decide +kernel)
    (by first | exact .inl (by decide +kernel) | exact .inr (by decide +kernel)) (by rw [isSubtype_type]; kernel_rfl)
theorem entry_ba_setitem : entryFor table "bytearray.__setitem__" = some Builtin.«bytearray.__setitem__» := entryFor_of_tree (by kernel_rfl)
theorem args_ba_setitem (a b c : Value) : argsOk "bytearray.__setitem__" ⟨[a, b, c], []⟩ := by unfold argsOk; kernel_rfl
theorem meets_ba_setitem {a : Addr} {l : List UInt8} {n : Nat} {j v : Int} {t u : Tok} (h0 : 0 ≤ j) (h1 : j < l.length) (h2 : 0 ≤ v) (h3 : v < 256) (h4 : j ≤ 1000000) (hz : l.length ≤ 100000) :
    Meets («bytearray.__setitem__» ⟨[.ref a, .int j t, .int v u], []⟩) (fun _ R s => s.heap.get? a = some (baObj l n) ∧
      ∀ h', h'.get? a = some (baObj (l.set j.toNat v.toNat.toUInt8) n) → h'.objs.size = s.heap.objs.size → (∀ b, b ≠ a → h'.get? b = s.heap.get? b) → R (.ok (.ret .none)) { s with heap := h' }) := by
  refine .of_wp fun prog w A R s hS => ?_
  obtain ⟨ho, hR⟩ := hS
  unfold «bytearray.__setitem__»
  refine wp_neg (by simp) ?_
  refine wpAny_bind ?_
  unfold Bytes.subscript?
  refine wpAny_bind (wpAny_specialOf (typeIs_int _ _ _) lookup_int_index ?_)
  refine wp_neg (by simp) ?_
  refine wpAny_bind (wpAny_of_eq (a := j) rfl ?_)
  refine wp_neg (by unfold Bytes.fitsIndex; simp; lia) ?_
  refine wpAny_pure ?_
  dsimp only
  refine wpAny_bind ?_
  unfold Bytes.byteValue
  refine wpAny_bind (wpAny_of_eq (a := v) rfl ?_)
  refine wp_neg (by simp; lia) ?_
  refine wpAny_pure ?_
  refine wpAny_bind ?_
  unfold Bytes.payload Bytes.payload?
  refine wpAny_bind (wpAny_bind (wpAny_load ho (wpAny_pure (wpAny_pure ?_))))
  have e : seqIndex? j l.toArray.size = some j.toNat := by
    rw [place_seq]; unfold place; rw [if_pos h0, if_pos (by simpa using h1)]
  simp only [e]
  refine wpAny_bind (write_ba (m := l.set j.toNat v.toNat.toUInt8) ho (by simp) (by simpa using hz) fun h' g z k => ?_)
  exact wpAny_pure ⟨_, rfl, hR h' g z k⟩
theorem setItem_ba {a : Addr} {l : List UInt8} {n : Nat} {j v : Int} {t u : Tok} {Q : Unit → Shared → Prop} (ho : s.heap.get? a = some (baObj l n)) (h0 : 0 ≤ j) (h1 : j < l.length) (h2 : 0 ≤ v) (h3 : v < 256) (h4 : j ≤ 1000000) (hz : l.length ≤ 100000)
    (h : ∀ h', h'.get? a = some (baObj (l.set j.toNat v.toNat.toUInt8) n) → h'.objs.size = s.heap.objs.size → (∀ b, b ≠ a → h'.get? b = s.heap.get? b) → Q () { s with heap := h' }) :
    wpAny (model prog w) A (setItem (.ref a) (.int j t) (.int v u)) Q E s := by
  have hT : s.TypeIs (.ref a) "bytearray" := ⟨_, ho, rfl⟩
  unfold setItem
  try with_reducible refine wpAny_holding ?_
  first | refine wpAny_bind (wpAny_pure ?_) | skip
  refine wpAny_bind (wpAny_sequenceKey hT (by decide) ?_)
  refine wpAny_bind (wpAny_callSpecial?_slot (name := Str.ofString "__setitem__") hT slot_ba_setitem
    (call_meets slot_ba_setitem hT entry_ba_setitem (args_ba_setitem _ _ _) (meets_ba_setitem h0 h1 h2 h3 h4 hz) ⟨ho, fun h' g z k => ?_⟩))
  exact wpAny_pure (h h' g z k)

/-! bytes(bytearray) -/
theorem ba_no_bytes : typeLookup (.type "bytearray") "__bytes__" = pure none := by rw [typeLookup_type, builtinLookup_eq_fast]; kernel_rfl
theorem ba_no_index : typeLookup (.type "bytearray") "__index__" = pure none := by rw [typeLookup_type, builtinLookup_eq_fast]; kernel_rfl
theorem ba_buffer : typeLookup (.type "bytearray") "__buffer__" = pure (some (.builtin "bytearray.__buffer__")) := by rw [typeLookup_type, builtinLookup_eq_fast]; kernel_rfl
theorem slotOwn_ba {M : Model} {a : Addr} {Q : Bool → Shared → Prop} (hT : s.TypeIs (.ref a) "bytearray") (h : Q true s) : wpAny M A (Bytes.slotIsOwn (.ref a) "__buffer__") Q E s := by
  unfold Bytes.slotIsOwn
  refine wpAny_bind (wpAny_specialOf hT ba_buffer ?_)
  have e1 : ("bytearray.__buffer__".endsWith ("." ++ "__buffer__")) = true := by decide +kernel
  have e2 : "bytearray.__buffer__".dropRight ("__buffer__".length + 1) = "bytearray" := by decide +kernel
  simp only [e1, Bool.not_true, Bool.false_eq_true, if_false, e2]
  exact wpAny_isInstance hT ba_sub h
theorem meets_bytes_new {a : Addr} {l : List UInt8} {n : Nat} (hz : l.length ≤ 100000) :
    Meets («bytes.__new__» ⟨[.type "bytes", .ref a], []⟩) (fun _ R s => s.heap.get? a = some (baObj l n) ∧ ∀ t' k, R (.ok (.ret (.bytes l.toArray t'))) { s with toks := k }) := by
  refine .of_wp fun prog w A R s hS => ?_
  obtain ⟨ho, hR⟩ := hS
  have hT : s.TypeIs (.ref a) "bytearray" := ⟨_, ho, rfl⟩
  unfold Builtin.«bytes.__new__»
  refine wpAny_bind (wpAny_of_eq (a := true) rfl ?_)
  refine bm_if_false rfl ?_
  refine wpAny_bind (wpAny_of_eq F.bm_sub ?_)
  refine bm_if_false rfl ?_
  refine wpAny_bind (wpAny_of_eq (F.bm_bind _) ?_)
  refine wpAny_bind (wpAny_of_eq (a := ()) rfl ?_)
  refine wpAny_bind (wpAny_of_eq (a := ()) rfl ?_)
  refine bm_if_false rfl ?_
  refine wpAny_bind (wpAny_specialOf hT ba_no_bytes ?_)
  refine wpAny_bind (wpAny_bind ?_)
  show wpAny _ _ (load a >>= _) _ _ _
  refine wpAny_bind (wpAny_load ho ?_)
  refine wpAny_pure (wpAny_pure ?_)
  refine bm_if_false rfl ?_
  refine wpAny_bind (wpAny_specialOf hT ba_no_index ?_)
  refine bm_if_true rfl ?_
  first
    | show wpAny _ _ (Builtin.Bytes.buffer? "bytes.__new__" (.ref a) true >>= _) _ _ _
    | (refine wpAny_bind ?_; show wpAny _ _ (Builtin.Bytes.buffer? "bytes.__new__" (.ref a) true >>= _) _ _ _)
  refine wpAny_bind ?_
  unfold Builtin.Bytes.buffer?
  refine wpAny_bind (wpAny_specialOf hT ba_buffer ?_)
  dsimp only
  refine wpAny_bind (slotOwn_ba hT ?_)
  simp only [Bool.not_true, Bool.false_eq_true, if_false]
  refine wpAny_bind (wpAny_specialOf hT ba_buffer ?_)
  refine wpAny_bind (ownRelease_ba hT ?_)
  simp only [Bool.false_eq_true, if_false]
  refine wpAny_bind ?_
  unfold Bytes.payload Bytes.payload?
  refine wpAny_bind (wpAny_bind (wpAny_load ho (wpAny_pure (wpAny_pure (wpAny_pure ?_)))))
  refine wpAny_bind (wpAny_rule (wpAny_bind (wpAny_mkBytes ?_ (by rw [sizeLine_eq]; simp; lia))))
  show wpAny _ _ (if (Value.type "bytes" == Value.type "bytes") = true then _ else _) _ _ _
  refine bm_if_true (by decide) ?_
  exact wpAny_pure ⟨_, rfl, hR _ _⟩
theorem bytes_sound {Φ : Fns} {own : Option Addr} {x z : D} {v : Value} (h : fn1 Φ .bytes x = some z) (hx : Rp own s.heap v x) : wpAny (model prog w) A (call (.type "bytes") [v]) (Ps own s z) E s := by
  obtain ⟨l, hl, h⟩ := Option.bind_eq_some_iff.mp h
  obtain ⟨hz, h⟩ := ite_some h
  cases h
  cases D.fba_some hl
  cases hx with
  | fba ho =>
    exact callType_new F.bm_called (by decide) (F.bm_typeCall _) (F.bm_newCall _) (fun obj => F.args_object_init_2 obj _) F.bm_entry
      (meets_bytes_new (size_ok hz)) ⟨ho, fun t' k => ⟨typeIs_bytes _ _ _, .mkBytes, keeps_toks s k⟩⟩
end
end Mine

end
section
open PySem PySem.W PyProof.Rows
set_option Elab.async false
set_option maxRecDepth 100000
namespace Mine
open Builtin

section
variable {prog : Program} {w : World} {A : Around} {E : Value → Shared → Prop} {s : Shared}
abbrev lsObj (vs : List Value) (n : Nat) : Obj := { cls := .type "list", data := .seq vs.toArray n }
theorem plain_upd {h : Heap} {a : Addr} {vs ws : List Value} {n : Nat} {f : Array Value → Array Value} (ho : h.get? a = some (lsObj vs n)) (hf : f vs.toArray = ws.toArray) :
    (h.update a (Obj.mapSeq f)).PlainList a ws.toArray := by
  obtain ⟨n', hd'⟩ := Obj.data_mapSeq (o := lsObj vs n) rfl f
  refine ⟨n', ?_⟩
  rw [Heap.get?_update_self (Obj.mapSeq f) ho (Obj.isFreed_of_seq hd')]
  have hc := Obj.cls_mapSeq (lsObj vs n) f
  congr 1
  rw [← hf]
  show Obj.mapSeq f (lsObj vs n) = _
  unfold Obj.mapSeq
  unfold Obj.mapSeq at hd'
  simp only at hd' ⊢
  injection hd' with e1 e2
  rw [← e2]
theorem append_sound {a : Addr} {vs : List Value} {x : Value} {Q : Value → Shared → Prop} (hp : s.heap.PlainList a vs.toArray) (hz : vs.length ≤ 100000)
    (h : ∀ h', h'.PlainList a (vs ++ [x]).toArray → Heap.SameBut a s.heap h' → Q .none { s with heap := h' }) : wpAny (model prog w) A (call (.builtin "list.append") [.ref a, x]) Q E s := by
  obtain ⟨n, ho⟩ := hp
  refine call_meets PySem.F.slot_list_append ⟨_, ho, rfl⟩ PySem.F.entry_list_append (PySem.F.args_list_append_2 _ _) (AutoListH.list_append_list_val_0 a _ n x (by rw [sizeLine_eq]; simp; lia)) ⟨ho, ?_⟩
  exact h _ (plain_upd ho (by simp)) (Heap.SameBut.update ..)
theorem insert_sound {a : Addr} {vs : List Value} {x : Value} {t : Tok} {Q : Value → Shared → Prop} (hp : s.heap.PlainList a vs.toArray) (hz : vs.length ≤ 100000)
    (h : ∀ h', h'.PlainList a (x :: vs).toArray → Heap.SameBut a s.heap h' → Q .none { s with heap := h' }) : wpAny (model prog w) A (call (.builtin "list.insert") [.ref a, .int 0 t, x]) Q E s := by
  obtain ⟨n, ho⟩ := hp
  refine call_meets PySem.F.slot_list_insert ⟨_, ho, rfl⟩ PySem.F.entry_list_insert (PySem.F.args_list_insert_3 _ _ _) (PySem.AutoSeq1.list_insert_list_int_val_1 a _ n 0 t x (by decide) (by rw [sizeLine_eq]; simp; lia)) ⟨ho, ?_⟩
  refine h _ (plain_upd ho ?_) (Heap.SameBut.update ..)
  apply Array.ext'
  simp
end

/-! the bound append -/
abbrev bmObj (a : Addr) : Obj := { cls := .type "builtin_function_or_method", data := .fields #[.builtin "list.append", .ref a] }
theorem entry_list_ga : entryFor table "list.__getattribute__" = some Builtin.«object.__getattribute__» :=
  entryFor_alias (id' := "object.__getattribute__") (by rw [fastTable_eq_tree]; kernel_rfl) (by first | rfl | decide +kernel) (by decide +kernel) (by rw [fastTable_eq_tree]; kernel_rfl)
theorem lk_list_append : typeLookup (.type "list") "append" = pure (some (.builtin "list.append")) := by rw [typeLookup_type, builtinLookup_eq_fast]; kernel_rfl
theorem slot_md_get : Slot "method_descriptor" "__get__" "method_descriptor.__get__" :=
  .of (owner := "method_descriptor") (n := "__get__") (by rw [typeLookup_type, builtinLookup_eq_fast]; kernel_rfl) (by decide +kernel) (by decide +kernel) (by decide +kernel)
    (by first | exact .inl (by decide +kernel) | exact .inr (by decide +kernel)) (by rw [isSubtype_type]; kernel_rfl)
theorem md_no_set : typeLookup (.type "method_descriptor") "__set__" = pure none := by rw [typeLookup_type, builtinLookup_eq_fast]; kernel_rfl
theorem md_no_delete : typeLookup (.type "method_descriptor") "__delete__" = pure none := by rw [typeLookup_type, builtinLookup_eq_fast]; kernel_rfl
theorem entry_md_get : entryFor table "method_descriptor.__get__" = some Builtin.«method_descriptor.__get__» := entryFor_of_tree (by kernel_rfl)
theorem args_md_get (a b c : Value) : argsOk "method_descriptor.__get__" ⟨[a, b, c], []⟩ := by unfold argsOk; kernel_rfl
theorem own_append : ".".intercalate ("list.append".cutAt '.').dropLast = "list" := by decide +kernel
theorem sub_append_owner : isSubtype (.type "list") (.type (".".intercalate ("list.append".cutAt '.').dropLast)) = pure true := by rw [own_append]; exact sub_list_self
theorem told_append : Manifest.toldItsClass.contains "list.append" = false := by decide +kernel

section
variable {prog : Program} {w : World} {A : Around} {E : Value → Shared → Prop} {s : Shared} {a : Addr} {o : Obj}
theorem md_get_append {Q : Fin → Shared → Prop} (hx : s.heap.get? a = some o) (hc : o.cls = .type "list") (h : Q (.done (.ret (.ref s.heap.objs.size))) { s with heap := s.heap.push (bmObj a) }) :
    wpAny (model prog w) A («method_descriptor.__get__» ⟨[.builtin "list.append", .ref a, .type "list"], []⟩) Q E s := by
  have hT : s.TypeIs (.ref a) "list" := ⟨_, hx, hc⟩
  unfold «method_descriptor.__get__»
  refine wpAny_bind (wpAny_of_eq (a := (.builtin "list.append", some (.ref a), some (.type "list"))) (by first | rfl | kernel_rfl) ?_)
  simp only [told_append, Bool.false_eq_true, if_false]
  have f8 := sub_append_owner
  obtain ⟨hp, g, d, tk, os⟩ := s
  repeat (any_goals (first | assumption | wp_step))
theorem ga_append {vs : List Value} {n : Nat} {tk : Tok} {Q : Fin → Shared → Prop} (hx : s.heap.get? a = some (lsObj vs n)) (h : Q (.done (.ret (.ref s.heap.objs.size))) { s with heap := s.heap.push (bmObj a) }) :
    wpAny (model prog w) A («object.__getattribute__» ⟨[.ref a, .str "append" tk], []⟩) Q E s := by
  have hT : s.TypeIs (.ref a) "list" := ⟨_, hx, rfl⟩
  have hT5 : s.TypeIs (.builtin "list.append") "method_descriptor" := F.type_list_append
  have f4 := lk_list_append
  have f5 := F.type_list_append
  have f6 := slot_md_get.lookup
  have f7 := md_no_set
  have f8 := md_no_delete
  obtain ⟨hp, g, d, tk, os⟩ := s
  repeat (any_goals (first | assumption | wp_step))
  refine codeAny_call_builtin slot_md_get.plain entry_md_get (slot_md_get.check _ _ _ _ _ _ _ _ hT5 (args_md_get _ _ _) (md_get_append hx rfl ?_))
  exact wpAny_pure h
theorem call_ga_append {vs : List Value} {n : Nat} {tk : Tok} {R : Result → Shared → Prop} (hx : s.heap.get? a = some (lsObj vs n)) (h : R (.ok (.ret (.ref s.heap.objs.size))) { s with heap := s.heap.push (bmObj a) }) :
    codeAny (model prog w) A (.call (.builtin "list.__getattribute__") ⟨[.ref a, .str "append" tk], []⟩) R s :=
  codeAny_call_builtin F.slot_list_getattribute.plain entry_list_ga (F.slot_list_getattribute.check _ _ _ _ _ _ _ _ ⟨_, hx, rfl⟩ (F.args_list_getattribute_2 _ _) (ga_append hx h))
theorem getAttr_append {vs : List Value} {n : Nat} {Q : Value → Shared → Prop} (hx : s.heap.get? a = some (lsObj vs n)) (h : Q (.ref s.heap.objs.size) { s with heap := s.heap.push (bmObj a), toks := s.toks + 1 }) :
    wpAny (model prog w) A (getAttr (.ref a) "append" true) Q E s := by
  have hT : s.TypeIs (.ref a) "list" := ⟨_, hx, rfl⟩
  have f2 := F.slot_list_getattribute.lookup
  have f3 := F.slot_list_getattribute.bind (.ref a)
  unfold getAttr
  obtain ⟨hp, g, d, tk, os⟩ := s
  repeat (any_goals (first | assumption | wp_step))
  refine call_ga_append (s := ⟨hp, g, d, tk + 1, os⟩) hx ?_
  repeat (any_goals (first | assumption | wp_step))

theorem sub_list_module : isSubtype (.type "list") (.type "module") = pure false := by rw [isSubtype_type]; kernel_rfl
theorem kind_append : builtinKind "list.append" = some .method := by decide +kernel
theorem varargs_append : Manifest.varargsMethods.contains "list.append" = false := by decide +kernel
theorem checkArgs_append (a : Addr) (v : Value) : (match Manifest.signature? "list.append" with | some sig => Bind.checkArgs "list.append" { sig with full := s!"{Bind.lastOf "list"}.{Bind.lastOf "list.append"}" } ⟨[.ref a, v], []⟩ | none => pure ()) = pure () := by kernel_rfl
theorem check_append {v : Value} {vs : List Value} {n : Nat} {Q : Unit → Shared → Prop} (hx : s.heap.get? a = some (lsObj vs n)) (h : Q () s) : wpAny (model prog w) A (checkBoundCall "list.append" ⟨[.ref a, v], []⟩) Q E s := by
  have hT : s.TypeIs (.ref a) "list" := ⟨_, hx, rfl⟩
  have key := checkArgs_append a v
  unfold checkBoundCall
  cases hsig : Manifest.signature? "list.append" with
  | none => exact wpAny_pure h
  | some sig =>
    rw [hsig] at key
    simp only at key
    simp only [kind_append]
    rw [if_neg (by decide)]
    refine wpAny_bind (wpAny_isInstance hT sub_list_module ?_)
    simp only [varargs_append, Bool.or_false, Bool.false_eq_true, if_false]
    have f1 := sub_list_self
    obtain ⟨hp, g, d, tk, os⟩ := s
    repeat (any_goals (first | assumption | wp_step))
theorem call_bm {b : Addr} {vs : List Value} {x : Value} {Q : Value → Shared → Prop} (hb : s.heap.get? b = some (bmObj a)) (hp : s.heap.PlainList a vs.toArray) (hz : vs.length ≤ 100000)
    (h : ∀ h', h'.PlainList a (vs ++ [x]).toArray → Heap.SameBut a s.heap h' → Q .none { s with heap := h' }) : wpAny (model prog w) A (call (.ref b) [x]) Q E s := by
  refine wpAny_call (codeAny_of_tree ?_)
  show wpAny _ A.in1 (callAny (.ref b) ⟨[x], []⟩) _ _ s
  simp only [callAny]
  refine wpAny_bind (wpAny_load hb ?_)
  simp only [show (Value.type "builtin_function_or_method" == Value.type "method" || Value.type "builtin_function_or_method" == Value.type "builtin_function_or_method" || Value.type "builtin_function_or_method" == Value.type "method-wrapper") = true by decide, if_true]
  obtain ⟨n, ho⟩ := id hp
  show wpAny _ _ (do checkBoundCall "list.append" ⟨[.ref a, x], []⟩; again (.builtin "list.append" ⟨[.ref a, x], []⟩)) _ _ s
  refine wpAny_bind (check_append ho (wpAny_pure ⟨plainId_quiet F.slot_list_append.plain _, ?_⟩))
  refine codeAny_builtin PySem.F.entry_list_append ?_
  rw [Around.under_plainId F.slot_list_append.plain]
  have m := AutoListH.list_append_list_val_0 a vs.toArray n x (by rw [sizeLine_eq]; simp; lia) prog w A (wants Q E) s ⟨ho, h _ (plain_upd ho (by simp)) (Heap.SameBut.update ..)⟩
  exact m
end
end Mine

end
section
open PySem PySem.W PyProof.Rows
set_option Elab.async false
set_option maxRecDepth 100000
namespace Mine

theorem wpX_toks {α : Type} {M : Model} {A : Around} {s : Shared} {t : Sem α} {Q : α → Shared → Prop} (h : wpX M A t Q s) : wpX M A t (fun a s' => s.toks ≤ s'.toks ∧ Q a s') s :=
  fun Γ p hΓ hc => Sem.wp_mono M Γ t (fun _ _ _ x => x) (fun _ _ _ x => x.2) p s (Sem.wp_toks M Γ s.toks t _ _ p s (Nat.le_refl _) (h Γ p hΓ hc))

/-- where a variable lives -/
noncomputable def Ld (env : Env) (h : Heap) (x : Str) (v : Value) : Prop :=
  (env.kindOf x = some .local ∧ ∃ m, h.Ns env.locals m ∧ m x = some v) ∨
  ((env.kindOf x = some .cell ∨ (env.kindOf x = some .free ∧ (x == ("__classdict__" : Str)) = false)) ∧ ∃ c, env.cells.lookup x = some c ∧ h.IsCell c (some v))
theorem ns_ext {h h' : Heap} {a : Addr} {m : Str → Option Value} (x : h.Ns a m) (k : Ext h h') : h'.Ns a m := by
  obtain ⟨o, es, ep, ho, r⟩ := x
  exact ⟨o, es, ep, k _ _ ho, r⟩
theorem Ld.ext {env : Env} {h h' : Heap} {x : Str} {v : Value} (l : Ld env h x v) (k : Ext h h') : Ld env h' x v := by
  rcases l with ⟨h1, m, h2, h3⟩ | ⟨h1, c, h2, h3⟩
  · exact .inl ⟨h1, m, ns_ext h2 k, h3⟩
  · exact .inr ⟨h1, c, h2, h3.keeps k⟩
theorem Ld.load {M : Model} {A : Around} {E : Value → Shared → Prop} {s : Shared} {env : Env} {x : Str} {v : Value} {Q : Value → Shared → Prop} (hk : env.scope.kind = .function) (l : Ld env s.heap x v) (h : Q v s) :
    wpAny M A (loadName env x) Q E s := by
  rcases l with ⟨h1, m, h2, h3⟩ | ⟨h1 | ⟨h1, h4⟩, c, h2, h3⟩
  · exact wpAny_loadName_local hk h1 h2 h3 h
  · exact wpAny_loadName_cell hk h1 h2 h3 h
  · exact wpAny_loadName_free hk h1 h2 h3 h h4

/-- the addresses of the functions and of the map -/
structure Ad where
  parts : Addr
  hooks : Addr
  decode : Addr
  encode : Addr
  swap : Addr
  moved : Addr

noncomputable def IsFn (h : Heap) (a : Addr) : Prop := ∃ o fd, h.get? a = some o ∧ o.data = .func fd
theorem IsFn.ext {h h' : Heap} {a : Addr} (x : IsFn h a) (k : Ext h h') : IsFn h' a := by obtain ⟨o, fd, h1, h2⟩ := x; exact ⟨o, fd, k _ _ h1, h2⟩
/-- a function of the program as the heap holds it -/
noncomputable def FnAt (h : Heap) (a : Addr) (name : Str) (i : Nat) (dV : Value) : Prop :=
  ∃ o pm cd doc kV, h.get? a = some o ∧ o.data = .func { Calls.docDef name (paramsAt i) (bodyAt i) (scopeAt i) pm cd doc with defaults := dV, kwdefaults := kV } ∧ h.CodeRec cd name
theorem FnAt.ext {h h' : Heap} {a : Addr} {name : Str} {i : Nat} {dV : Value} (x : FnAt h a name i dV) (k : Ext h h') : FnAt h' a name i dV := by
  obtain ⟨o, pm, cd, doc, kV, h1, h2, h3⟩ := x
  exact ⟨o, pm, cd, doc, kV, k _ _ h1, h2, h3.keeps k⟩
theorem FnAt.isFn {h : Heap} {a : Addr} {name : Str} {i : Nat} {dV : Value} (x : FnAt h a name i dV) : IsFn h a := by
  obtain ⟨o, pm, cd, doc, kV, h1, h2, h3⟩ := x
  exact ⟨o, _, h1, h2⟩
theorem tup_ext {h h' : Heap} {a : Addr} {xs : Array Value} (x : IsTup h a xs) (k : Ext h h') : IsTup h' a xs := by obtain ⟨o, ho, r⟩ := x; exact ⟨o, k _ _ ho, r⟩
structure FnsAt (g : Ad) (h : Heap) : Prop where
  parts : FnAt h g.parts "_law_parts" 24 .none
  hooks : FnAt h g.hooks "_law_hooks" 25 .none
  decode : ∃ T t, FnAt h g.decode "decode" 20 (.ref T) ∧ IsTup h T [.str ⟨[10].toArray⟩ t].toArray
  encode : ∃ T t u, FnAt h g.encode "body_encode" 19 (.ref T) ∧ IsTup h T [.int 76 t, .str ⟨[10].toArray⟩ u].toArray
  swap : FnAt h g.swap "_byteswap" 22 .none
  moved : FnAt h g.moved "_law_moved" 26 .none
theorem FnsAt.ext {g : Ad} {h h' : Heap} (x : FnsAt g h) (k : Ext h h') : FnsAt g h' :=
  ⟨x.parts.ext k, x.hooks.ext k, let ⟨T, t, a, b⟩ := x.decode; ⟨T, t, a.ext k, tup_ext b k⟩, let ⟨T, t, u, a, b⟩ := x.encode; ⟨T, t, u, a.ext k, tup_ext b k⟩, x.swap.ext k, x.moved.ext k⟩
theorem IsMap.ext {h h' : Heap} {m : Value} (x : IsMap h m) (k : Ext h h') : IsMap h' m := by
  obtain ⟨a, vs, rfl, p, r⟩ := x
  exact ⟨a, vs, rfl, p.at fun o e => k _ o e, r⟩

structure GlobOk (g : Ad) (h : Heap) : Prop where
  at_ : ∃ mg mb mp, h.Ns mainGlobals mg ∧ h.Ns builtinsNs mb ∧ IsMap h mp ∧
    (mg "len" = none ∧ mg "sum" = none ∧ mg "sorted" = none ∧ mg "range" = none ∧ mg "bytes" = none ∧ mg "bytearray" = none) ∧
    (mb "len" = some (.builtin "len") ∧ mb "sum" = some (.builtin "sum") ∧ mb "sorted" = some (.builtin "sorted") ∧ mb "range" = some (.type "range") ∧ mb "bytes" = some (.type "bytes") ∧ mb "bytearray" = some (.type "bytearray")) ∧
    (mg "_law_parts" = some (.ref g.parts) ∧ mg "_law_hooks" = some (.ref g.hooks) ∧ mg "decode" = some (.ref g.decode) ∧ mg "body_encode" = some (.ref g.encode) ∧ mg "_byteswap" = some (.ref g.swap) ∧ mg "_law_moved" = some (.ref g.moved)) ∧
    (∃ t, mg "CRLF" = some (.str ⟨[13, 10].toArray⟩ t)) ∧ (∃ t, mg "hexdigits" = some (.str ⟨[48, 49, 50, 51, 52, 53, 54, 55, 56, 57, 97, 98, 99, 100, 101, 102, 65, 66, 67, 68, 69, 70].toArray⟩ t)) ∧ mg "_QUOPRI_BODY_ENCODE_MAP" = some mp
  fns : FnsAt g h
  lim : h.NoLimit
theorem GlobOk.ext {g : Ad} {h h' : Heap} (x : GlobOk g h) (k : Ext h h') : GlobOk g h' := by
  obtain ⟨⟨mg, mb, mp, a, b, c, r⟩, f, l⟩ := x
  exact ⟨⟨mg, mb, mp, ns_ext a k, ns_ext b k, c.ext k, r⟩, f.ext k, l.keeps k⟩
theorem GlobOk.isFn {g : Ad} {h : Heap} (x : GlobOk g h) : IsFn h g.parts ∧ IsFn h g.hooks ∧ IsFn h g.decode ∧ IsFn h g.encode ∧ IsFn h g.swap ∧ IsFn h g.moved :=
  ⟨x.fns.parts.isFn, x.fns.hooks.isFn, let ⟨_, _, a, _⟩ := x.fns.decode; a.isFn, let ⟨_, _, _, a, _⟩ := x.fns.encode; a.isFn, x.fns.swap.isFn, x.fns.moved.isFn⟩

/-- the object under way is alive -/
noncomputable def Own (own : Option Addr) (h : Heap) : Prop := ∀ a, own = some a → ∃ o, h.get? a = some o
theorem Own.ext {own : Option Addr} {h h' : Heap} (x : Own own h) (k : Ext h h') : Own own h' := fun a e => let ⟨o, ho⟩ := x a e; ⟨o, k _ _ ho⟩
theorem Own.lt {own : Option Addr} {h : Heap} (x : Own own h) : ∀ a, own = some a → a < h.objs.size := fun a e => let ⟨_, ho⟩ := x a e; Heap.lt_size ho

noncomputable def Ct1 (prog : Program) (w : World) (g : Ad) (L : Nat) (a : Addr) (f : D → Option D) : Prop :=
  ∀ (A : Around) (s : Shared) (own : Option Addr) (v : Value) (x z : D), AOk A L → GlobOk g s.heap → 1 ≤ s.toks → Own own s.heap → Rp own s.heap v x → f x = some z → wpX (model prog w) A (call (.ref a) [v]) (Ps own s z) s
noncomputable def Ct2 (prog : Program) (w : World) (g : Ad) (L : Nat) (a : Addr) (f : D → D → Option D) : Prop :=
  ∀ (A : Around) (s : Shared) (own : Option Addr) (v u : Value) (x y z : D), AOk A L → GlobOk g s.heap → 1 ≤ s.toks → Own own s.heap → Rp own s.heap v x → Rp own s.heap u y → f x y = some z → wpX (model prog w) A (call (.ref a) [v, u]) (Ps own s z) s
noncomputable def Ct3 (prog : Program) (w : World) (g : Ad) (L : Nat) (a : Addr) (f : D → D → D → Option D) : Prop :=
  ∀ (A : Around) (s : Shared) (own : Option Addr) (v u t : Value) (x y c z : D), AOk A L → GlobOk g s.heap → 1 ≤ s.toks → Own own s.heap → Rp own s.heap v x → Rp own s.heap u y → Rp own s.heap t c → f x y c = some z → wpX (model prog w) A (call (.ref a) [v, u, t]) (Ps own s z) s
structure FnsOk (prog : Program) (w : World) (g : Ad) (Φ : Fns) (L : Nat) : Prop where
  parts : Ct1 prog w g L g.parts Φ.parts
  hooks : Ct1 prog w g L g.hooks Φ.hooks
  decode : Ct1 prog w g L g.decode Φ.decode
  encode : Ct2 prog w g L g.encode Φ.encode
  swap : Ct2 prog w g L g.swap Φ.swap
  moved : Ct3 prog w g L g.moved Φ.moved

structure Vw (g : Ad) (ns : List Str) (gs : Gs) (env : Env) (own : Option Addr) (s : Shared) (ρ : List D) : Prop where
  kind : env.scope.kind = .function
  kinds : ∀ y k, gs.lookup y = some k → env.kindOf y = some k ∨ (k = .free ∧ env.kindOf y = some .cell)
  cells : ∀ y, env.kindOf y = some .cell ∨ env.kindOf y = some .free → ∃ c, env.cells.lookup y = some c
  globals : env.globals = mainGlobals
  builtins : env.builtins = builtinsNs
  ok : GlobOk g s.heap
  toks : 1 ≤ s.toks
  ownd : Own own s.heap
  vars : ∀ (i : Nat) x d d', ns[i]? = some x → ρ[i]? = some d → readable d = some d' → ∃ v, Ld env s.heap x v ∧ Rp own s.heap v d'
  nodebug : ∀ x ∈ ns, (x == ("__debug__" : Str)) = false
theorem Vw.next {g : Ad} {ns : List Str} {gs : Gs} {env : Env} {own : Option Addr} {s s' : Shared} {ρ : List D} (x : Vw g ns gs env own s ρ) (k : Keeps s s') (ht : s.toks ≤ s'.toks) : Vw g ns gs env own s' ρ :=
  ⟨x.kind, x.kinds, x.cells, x.globals, x.builtins, x.ok.ext (keeps_ext k), Nat.le_trans x.toks ht, x.ownd.ext (keeps_ext k),
    fun i y d d' h1 h2 h3 => let ⟨v, a, b⟩ := x.vars i y d d' h1 h2 h3; ⟨v, a.ext (keeps_ext k), b.ext (keeps_ext k)⟩, x.nodebug⟩
theorem idxOf_at {ns : List Str} {x : Str} {i : Nat} (h : idxOf ns x = some i) : ns[i]? = some x := by
  unfold idxOf at h
  rw [List.findIdx?_eq_some_iff_getElem] at h
  obtain ⟨h1, h2, _⟩ := h
  rw [List.getElem?_eq_getElem h1]
  simpa using h2

section
variable {prog : Program} {w : World} {g : Ad} {Φ : Fns} {L : Nat}
noncomputable def EvOk (prog : Program) (w : World) (g : Ad) (Φ : Fns) (L n : Nat) : Prop := ∀ (ns : List Str) (gs : Gs) (e : Expr) (env : Env) (own : Option Addr) (s : Shared) (ρ : List D) (d : D) (A : Around),
  AOk A (n + L) → Vw g ns gs env own s ρ → ev Φ (tr n ns gs e) ρ = some d → wpX (model prog w) A (eval e env) (Ps own s d) s
noncomputable def TtOk (prog : Program) (w : World) (g : Ad) (Φ : Fns) (L n : Nat) : Prop := ∀ (ns : List Str) (gs : Gs) (e : Expr) (env : Env) (own : Option Addr) (s : Shared) (ρ : List D) (b : Bool) (A : Around),
  AOk A (n + L) → Vw g ns gs env own s ρ → (ev Φ (trT n ns gs e) ρ).bind truthy = some b → wpX (model prog w) A (isTrue e env (eval e env)) (fun b' s' => b' = b ∧ Keeps s s') s

variable {n : Nat} {ns : List Str} {gs : Gs} {env : Env} {own : Option Addr} {s : Shared} {ρ : List D} {A : Around}
theorem AOk.le {m k : Nat} (h : AOk A m) (hk : k ≤ m) : AOk A k := ⟨h.1, by have := h.2.1; lia, by have := h.2.2; lia⟩
theorem Ps.trans {s' s'' : Shared} {d : D} {v : Value} (k : Keeps s s') (h : Ps own s' d v s'') : Ps own s d v s'' := ⟨h.1, keeps_trans k h.2⟩
/-- one part -/
theorem one {e : Expr} {x : D} {Q : Value → Shared → Prop} (ih : EvOk prog w g Φ L n) (hA : AOk A (n + L)) (hv : Vw g ns gs env own s ρ) (hx : ev Φ (tr n ns gs e) ρ = some x)
    (k : ∀ v s', Rp own s'.heap v x → Keeps s s' → Vw g ns gs env own s' ρ → Q v s') : wpX (model prog w) A (eval e env) Q s :=
  wpX_mono (wpX_toks (ih ns gs e env own s ρ x A hA hv hx)) fun v s' h => k v s' h.2.1 h.2.2 (hv.next h.2.2 h.1)
/-- two parts -/
theorem two {a b : Expr} {x y : D} {β : Type} {f : Value → Value → Sem β} {Q : β → Shared → Prop} (ih : EvOk prog w g Φ L n) (hA : AOk A (n + L)) (hv : Vw g ns gs env own s ρ) (hx : ev Φ (tr n ns gs a) ρ = some x) (hy : ev Φ (tr n ns gs b) ρ = some y)
    (k : ∀ v u s', Rp own s'.heap v x → Rp own s'.heap u y → Keeps s s' → Vw g ns gs env own s' ρ → wpX (model prog w) A (f v u) Q s') :
    wpX (model prog w) A (eval a env) (fun v s₁ => wpX (model prog w) A (eval b env) (fun u s₂ => wpX (model prog w) A (f v u) Q s₂) s₁) s :=
  one ih hA hv hx fun v s₁ r₁ k₁ v₁ => one ih hA v₁ hy fun u s₂ r₂ k₂ v₂ => k v u s₂ (r₁.ext (keeps_ext k₂)) r₂ (keeps_trans k₁ k₂) v₂
theorem bindSome {α β : Type} {o : Option α} {f : α → Option β} {b : β} (h : o.bind f = some b) : ∃ a, o = some a ∧ f a = some b := Option.bind_eq_some_iff.mp h

theorem fail_no {d : D} {P : Prop} (h : ev Φ .fail ρ = some d) : P := nope h
theorem onX_ev {α : Type} {o : Option α} {k : α → X} {d : D} (h : ev Φ (onX o k) ρ = some d) : ∃ a, o = some a ∧ ev Φ (k a) ρ = some d := by
  cases o with
  | some a => exact ⟨a, rfl, h⟩
  | none => exact fail_no h
theorem elX_ev {α : Type} {o : Option α} {k : α → X} {e : X} {d : D} (h : ev Φ (elX o k e) ρ = some d) : (∃ a, o = some a ∧ ev Φ (k a) ρ = some d) ∨ ev Φ e ρ = some d := by
  cases o with
  | some a => exact .inl ⟨a, rfl, h⟩
  | none => exact .inr h
theorem ifX_ev {c : Bool} {a : X} {d : D} (h : ev Φ (ifX c a) ρ = some d) : c = true ∧ ev Φ a ρ = some d := by
  cases c with
  | true => exact ⟨rfl, h⟩
  | false => exact fail_no h
theorem gvOf_some {x : Str} {v : GV} (h : gvOf x = some v) : (x = "CRLF" ∧ v = .crlf) ∨ (x = "hexdigits" ∧ v = .hexd) := by
  obtain ⟨e, h⟩ | h := ite_or h
  · exact .inl ⟨e, (Option.some.inj h).symm⟩
  obtain ⟨e, h⟩ := ite_some h
  exact .inr ⟨e, (Option.some.inj h).symm⟩
theorem isG_some {x : Str} (h : isG gs x = true) : gs.lookup x = some .globalImplicit := eq_of_beq h
theorem case_name {x : Str} {pos : Pos} {d : D} (hv : Vw g ns gs env own s ρ) (h : ev Φ (trName ns gs x) ρ = some d) : wpX (model prog w) A (eval (.Name x pos) env) (Ps own s d) s := by
  obtain ⟨i, hi, h⟩ | h := elX_ev h
  · obtain ⟨d', h1, h2⟩ := bindSome h
    have hx := idxOf_at hi
    obtain ⟨v, l, r⟩ := hv.vars i x d' d hx h1 h2
    exact .of (wpAny_Name (l.load hv.kind ⟨r, keeps_refl s⟩) (hv.nodebug x (List.mem_of_getElem? hx)))
  · obtain ⟨gv, hg, h⟩ := onX_ev h
    obtain ⟨hG, h⟩ := ifX_ev h
    have hk : env.kindOf x = some .globalImplicit := (hv.kinds x _ (isG_some hG)).resolve_right fun h => nomatch h.1
    obtain ⟨mg, mb, mp, n1, n2, n3, a1, a2, a3, ⟨t1, c1⟩, ⟨t2, c2⟩, c3⟩ := hv.ok.at_
    cases h
    obtain ⟨rfl, rfl⟩ | ⟨rfl, rfl⟩ := gvOf_some hg
    · exact .of (Calls.Name_function_global hv.kind hk (Calls.loadGlobal_global (hv.globals ▸ n1) c1 ⟨.mkStr, keeps_refl s⟩))
    · exact .of (Calls.Name_function_global hv.kind hk (Calls.loadGlobal_global (hv.globals ▸ n1) c2 ⟨.mkStr, keeps_refl s⟩))
end
end Mine

end
section
open PySem PySem.W PyProof.Rows
set_option Elab.async false
set_option maxRecDepth 100000
namespace Mine
theorem wpX_Subscript {M : Model} {A : Around} {s : Shared} {env : Env} {value slice pos} {Q : Value → Shared → Prop}
    (h : wpX M A (eval value env) (fun o s₁ => wpX M A (eval slice env) (fun i s₂ => wpX M A (subscriptTail value slice o i) Q s₂) s₁) s) :
    wpX M A (eval (.Subscript value slice pos) env) Q s := by
  rw [eval_Subscript]
  exact wpX_bind (wpX_mono h fun o s₁ h₁ => wpX_bind (wpX_holding (wpX_mono h₁ fun i s₂ h₂ => wpX_stand h₂)))
theorem wpX_Slice {M : Model} {A : Around} {s : Shared} {env : Env} {lower upper step : Option Expr} {p : Pos} {Q : Value → Shared → Prop}
    (h : wpX M A (valueOrNone (evalOpt lower env)) (fun l s₁ => wpX M A (valueOrNone (evalOpt upper env)) (fun u s₂ => wpX M A (valueOrNone (evalOpt step env)) (fun st s₃ =>
      Q (.ref s₃.heap.objs.size) { s₃ with heap := s₃.heap.push { cls := .type "slice", data := .fields #[l, u, st] } }) s₂) s₁) s) :
    wpX M A (eval (.Slice lower upper step p) env) Q s := by
  rw [arm_eval_Slice]
  refine wpX_bind (wpX_mono h fun l s₁ h₁ => wpX_bind (wpX_holding (wpX_mono h₁ fun u s₂ h₂ => wpX_bind (wpX_holding (wpX_mono h₂ fun st s₃ h₃ => ?_)))))
  exact .of (wpAny_newObj_type h₃)
theorem star_of {e : Expr} {rest : List Expr} {env : Env} (h : ∀ x p, e ≠ .Starred x p) : starEach (e :: rest) env = (false, eval e env) :: starEach rest env := by
  cases e <;> first | rfl | exact absurd rfl (h _ _)
theorem fail_star {Φ : Fns} {n : Nat} {ns : List Str} {gs : Gs} {e : Expr} {ρ : List D} {d : D} (h : ev Φ (tr n ns gs e) ρ = some d) : ∀ x p, e ≠ .Starred x p := by
  rintro x p rfl
  cases n <;> exact fail_no h

section
variable {prog : Program} {w : World} {g : Ad} {Φ : Fns} {L : Nat} {n : Nat} {ns : List Str} {gs : Gs} {env : Env} {own : Option Addr} {s : Shared} {ρ : List D} {A : Around}

theorem case_bin {a b : Expr} {op : Operator} {o : BOp} {pos : Pos} {d : D} (ih : EvOk prog w g Φ L n) (hA : AOk A (n + L)) (hv : Vw g ns gs env own s ρ) (ho : bopOf op = some o) (h : ev Φ (.bin o (tr n ns gs a) (tr n ns gs b)) ρ = some d) :
    wpX (model prog w) A (eval (.BinOp a op b pos) env) (Ps own s d) s := by
  obtain ⟨x, hx, h⟩ := bindSome h
  obtain ⟨y, hy, h⟩ := bindSome h
  exact wpX_BinOp (two ih hA hv hx hy fun v u s' r1 r2 k v' => wpX_mono (.of (binop_sound v'.ownd.lt ho h r1 r2)) fun _ _ q => q.trans k)
theorem case_neg {a : Expr} {pos : Pos} {d : D} (ih : EvOk prog w g Φ L n) (hA : AOk A (n + L)) (hv : Vw g ns gs env own s ρ) (h : ev Φ (.neg (tr n ns gs a)) ρ = some d) :
    wpX (model prog w) A (eval (.UnaryOp .USub a pos) env) (Ps own s d) s := by
  obtain ⟨x, hx, h⟩ := bindSome h
  obtain ⟨i, hi, rfl⟩ := Option.map_eq_some_iff.mp h
  cases D.int_some hi
  exact wpX_UnaryOp (one ih hA hv hx fun v s' r k v' => wpX_mono (.of (neg_sound r)) fun _ _ q => q.trans k)
theorem case_cmp {a b : Expr} {op : CmpOp} {o : COp} {pos : Pos} {d : D} (ih : EvOk prog w g Φ L n) (hA : AOk A (n + L)) (hv : Vw g ns gs env own s ρ) (ho : copOf op = some o) (h : ev Φ (.cmp o (tr n ns gs a) (tr n ns gs b)) ρ = some d) :
    wpX (model prog w) A (eval (.Compare a [op] [b] pos) env) (Ps own s d) s := by
  obtain ⟨x, hx, h⟩ := bindSome h
  obtain ⟨y, hy, h⟩ := bindSome h
  obtain ⟨c, hc, rfl⟩ := Option.map_eq_some_iff.mp h
  refine wpX_Compare1 (two ih hA hv hx hy fun v u s' r1 r2 k v' => wpX_mono (.of (cmpop_sound (hA.le (by lia)) ho hc r1 r2)) fun _ _ q => q.trans k) ?_
  cases b <;> first | rfl | (cases n <;> exact fail_no hy)
theorem case_ite {t a b : Expr} {pos : Pos} {d : D} (ih : EvOk prog w g Φ L n) (it : TtOk prog w g Φ L n) (hA : AOk A (n + L)) (hv : Vw g ns gs env own s ρ) (h : ev Φ (.ite (trT n ns gs t) (tr n ns gs a) (tr n ns gs b)) ρ = some d) :
    wpX (model prog w) A (eval (.IfExp t a b pos) env) (Ps own s d) s := by
  obtain ⟨c, hc, h⟩ := bindSome h
  refine wpX_IfExp (wpX_mono (wpX_toks (it ns gs t env own s ρ c A hA hv hc)) ?_)
  rintro b' s' ⟨ht, rfl, k⟩
  have v' := hv.next k ht
  cases b' with
  | true => exact wpX_mono (ih ns gs a env own s' ρ d A hA v' (by simpa using h)) fun _ _ q => q.trans k
  | false => exact wpX_mono (ih ns gs b env own s' ρ d A hA v' (by simpa using h)) fun _ _ q => q.trans k
theorem case_l0 {pos : Pos} {d : D} (hv : Vw g ns gs env own s ρ) (h : ev Φ .l0 ρ = some d) : wpX (model prog w) A (eval (.List [] pos) env) (Ps own s d) s := by
  cases h
  exact wpX_List (wpX_items_nil ⟨Nat.zero_le _, .list ⟨0, Heap.get?_push_size _ rfl⟩ .nil (fun e => absurd (hv.ownd.lt _ e) (Nat.lt_irrefl _)), keeps_of (Ext.push _ _)⟩)
theorem case_l1 {a : Expr} {pos : Pos} {d : D} (ih : EvOk prog w g Φ L n) (hA : AOk A (n + L)) (hv : Vw g ns gs env own s ρ) (h : ev Φ (.l1 (tr n ns gs a)) ρ = some d) : wpX (model prog w) A (eval (.List [a] pos) env) (Ps own s d) s := by
  obtain ⟨x, hx, h⟩ := bindSome h
  obtain ⟨c, hc, rfl⟩ := Option.map_eq_some_iff.mp h
  refine wpX_List (wpX_items_cons (one ih hA hv hx fun v s' r k v' => wpX_items_nil ⟨by rw [sizeLine_eq]; simp, ?_, keeps_trans k (keeps_of (Ext.push _ _))⟩) (star_of (fail_star hx)))
  cases x <;> simp only [asSc] at hc <;> cases hc
  cases r with
  | sc e => exact .list ⟨0, Heap.get?_push_size _ rfl⟩ (.cons e .nil) (fun e => absurd (v'.ownd.lt _ e) (Nat.lt_irrefl _))
theorem case_l3 {a b c : Expr} {pos : Pos} {d : D} (ih : EvOk prog w g Φ L n) (hA : AOk A (n + L)) (hv : Vw g ns gs env own s ρ) (h : ev Φ (.l3 (tr n ns gs a) (tr n ns gs b) (tr n ns gs c)) ρ = some d) : wpX (model prog w) A (eval (.List [a, b, c] pos) env) (Ps own s d) s := by
  obtain ⟨x, hx, h⟩ := bindSome h
  obtain ⟨y, hy, h⟩ := bindSome h
  obtain ⟨z, hz, h⟩ := bindSome h
  obtain ⟨a, ha, h⟩ := bindSome h
  obtain ⟨b, hb, h⟩ := bindSome h
  obtain ⟨c, hc, rfl⟩ := Option.map_eq_some_iff.mp h
  cases asSc_is ha
  cases asSc_is hb
  cases asSc_is hc
  refine wpX_List (wpX_items_cons (one ih hA hv hx fun v s₁ r₁ k₁ v₁ => wpX_items_cons (one ih hA v₁ hy fun u s₂ r₂ k₂ v₂ => wpX_items_cons (one ih hA v₂ hz fun t s₃ r₃ k₃ v₃ => wpX_items_nil ⟨by rw [sizeLine_eq]; simp, ?_, keeps_trans k₁ (keeps_trans k₂ (keeps_trans k₃ (keeps_of (Ext.push _ _))))⟩) (star_of (fail_star hz))) (star_of (fail_star hy))) (star_of (fail_star hx)))
  cases r₁ with
  | sc e₁ => cases r₂ with
    | sc e₂ => cases r₃ with
      | sc e₃ => exact .list ⟨0, Heap.get?_push_size _ rfl⟩ (.cons e₁ (.cons e₂ (.cons e₃ .nil))) (fun e => absurd (v₃.ownd.lt _ e) (Nat.lt_irrefl _))
theorem items_ints {pos : Pos} : ∀ {es : List Expr} {l : List Int} {s : Shared} {Q : List Value → Shared → Prop}, intsOf es = some l → (∀ vs s', Are vs (l.map .int) → Keeps s s' → Q vs s') → wpX (model prog w) A (spliced (backTo pos (starEach es env))) Q s
  | [], l, s, Q, h, k => by cases h; exact wpX_items_nil (k _ _ .nil (keeps_refl s))
  | e :: es, l, s, Q, h, k => by
    obtain ⟨q, hq, h⟩ := bindSome h
    obtain ⟨i, hi, h⟩ := bindSome h
    obtain ⟨m, hm, rfl⟩ := Option.map_eq_some_iff.mp h
    rw [asLit_some hq, cInt_some hi]
    exact wpX_items_cons (.of (wpAny_Constant_int (items_ints hm fun vs s' a k' => k _ _ (.cons rfl a) (keeps_trans (keeps_toks s _) k')))) rfl
theorem case_tup {es : List Expr} {k : Nat} {pos : Pos} {l : List Int} {d : D} (hv : Vw g ns gs env own s ρ) (hl : intsOf es = some l) (h : ev Φ (.tupc l) ρ = some d) : wpX (model prog w) A (eval (.Tuple es k pos) env) (Ps own s d) s := by
  obtain ⟨hz, h⟩ := ite_some h
  have hz := size_ok hz
  cases h
  refine wpX_Tuple (items_ints hl fun vs s' a k' => ⟨by have := a.length; rw [sizeLine_eq]; simp at this; lia, .tup ⟨_, Heap.get?_push_size _ rfl, rfl, 0, rfl⟩ a (fun e => absurd ((hv.ownd.ext (keeps_ext k')).lt _ e) (Nat.lt_irrefl _)), keeps_trans k' (keeps_of (Ext.push _ _))⟩)

theorem sub_slice {lo hi : Option Expr} {p : Pos} {o i : Value} : subscripted (.Slice lo hi none p) false o i = operate [i, o] (getItem o i) := rfl
theorem sub_other {e : Expr} {o i : Value} (h : ∀ a b c p, e ≠ .Slice a b c p) : subscripted e false o i = operate [o, i] (getItem o i) := by
  cases e <;> first | rfl | exact absurd rfl (h _ _ _ _)
theorem fail_slice {e : Expr} {d : D} (h : ev Φ (tr n ns gs e) ρ = some d) : ∀ a b c p, e ≠ .Slice a b c p := by
  rintro a b c p rfl
  cases n <;> exact fail_no h
theorem case_idx {a i : Expr} {pos : Pos} {d : D} (ih : EvOk prog w g Φ L n) (hA : AOk A (n + L)) (hv : Vw g ns gs env own s ρ) (h : ev Φ (.idx (tr n ns gs a) (tr n ns gs i)) ρ = some d) : wpX (model prog w) A (eval (.Subscript a i pos) env) (Ps own s d) s := by
  obtain ⟨x, hx, h⟩ := bindSome h
  obtain ⟨y, hy, h⟩ := bindSome h
  exact wpX_Subscript (two ih hA hv hx hy fun v u s' r1 r2 k v' => wpX_mono (.of (gets_tail (index_sound h r1 r2) (sub_other (fail_slice hy)))) fun _ _ q => q.trans k)
/-- a bound of a slice, written or not -/
inductive PtX (Φ : Fns) (n : Nat) (ns : List Str) (gs : Gs) (ρ : List D) : Option Expr → Option D → Prop
  | none : PtX Φ n ns gs ρ none none
  | some {e : Expr} {d : D} : ev Φ (tr n ns gs e) ρ = some d → PtX Φ n ns gs ρ (some e) (some d)
theorem pt_of {v : Value} {y : D} (r : Rp own s.heap v y) (hy : ∃ i, y = .sc (.int i)) : Pt v (some y) := by
  obtain ⟨i, rfl⟩ := hy
  obtain ⟨t, rfl⟩ := r.int
  exact .int i t
noncomputable def okB : Option D → Prop
  | some d => ∃ i, d = .sc (.int i)
  | none => True
theorem part_of {e : Option Expr} {o : Option D} {Q : Value → Shared → Prop} (ih : EvOk prog w g Φ L n) (hA : AOk A (n + L)) (hv : Vw g ns gs env own s ρ) (h : PtX Φ n ns gs ρ e o) (hb : okB o)
    (k : ∀ v s', Pt v o → Keeps s s' → Vw g ns gs env own s' ρ → Q v s') : wpX (model prog w) A (valueOrNone (evalOpt e env)) Q s := by
  cases h with
  | none => exact wpX_pure (k _ _ .none (keeps_refl s) hv)
  | some hx => exact one ih hA hv hx fun v s' r k' v' => k v s' (pt_of r hb) k' v'
theorem lim_ok {o : Option D} {a : Option Int} (h : lim o = some a) : okB o := by
  cases o with
  | none => trivial
  | some d => obtain ⟨i, hi, _⟩ := bindSome h; exact ⟨i, D.int_some hi⟩
theorem go_ok {m : Nat} {lo hi : Option D} {f : Nat → Nat → D} {z : D} (h : sliceGo m lo hi f = some z) : okB lo ∧ okB hi := by
  obtain ⟨_, h⟩ := ite_none h
  obtain ⟨a, ha, h⟩ := bindSome h
  obtain ⟨b, hb, h⟩ := bindSome h
  exact ⟨lim_ok ha, lim_ok hb⟩
theorem slice_ok {x z : D} {lo hi : Option D} (h : slice x lo hi = some z) : okB lo ∧ okB hi := by
  cases x with
  | list l => exact go_ok (m := l.length) (f := fun a b => .list (cut l a b)) h
  | sc c => cases c with
    | str l => exact go_ok (m := l.length) (f := fun a b => .sc (.str (cut l a b))) h
    | bytes l => exact go_ok (m := l.length) (f := fun a b => .sc (.bytes (cut l a b))) h
    | _ => exact nope h
  | _ => exact nope h
theorem case_slice {a : Expr} {lo hi : Option Expr} {p pos : Pos} {x d : D} {l u : Option D} (ih : EvOk prog w g Φ L n) (hA : AOk A (n + L)) (hv : Vw g ns gs env own s ρ) (hx : ev Φ (tr n ns gs a) ρ = some x) (hl : PtX Φ n ns gs ρ lo l) (hu : PtX Φ n ns gs ρ hi u)
    (h : slice x l u = some d) : wpX (model prog w) A (eval (.Subscript a (.Slice lo hi none p) pos) env) (Ps own s d) s := by
  obtain ⟨b1, b2⟩ := slice_ok h
  refine wpX_Subscript (one ih hA hv hx fun v s₁ r₁ k₁ v₁ => wpX_Slice (part_of ih hA v₁ hl b1 fun lv s₂ p₂ k₂ v₂ => part_of ih hA v₂ hu b2 fun uv s₃ p₃ k₃ v₃ => wpX_pure ?_))
  have k4 : Keeps s₃ { s₃ with heap := s₃.heap.push { cls := .type "slice", data := .fields #[lv, uv, .none] } } := keeps_of (Ext.push _ _)
  have v4 := v₃.next k4 (Nat.le_refl _)
  refine wpX_mono (.of (gets_tail (slice_sound v4.ownd.lt h (((r₁.ext (keeps_ext k₂)).ext (keeps_ext k₃)).ext (keeps_ext k4)) p₂ p₃ (Heap.IsSliceOf.new _ _ _ _)) sub_slice)) fun _ _ q => q.trans (keeps_trans k₁ (keeps_trans k₂ (keeps_trans k₃ k4)))
end
end Mine

end
section
open PySem PySem.W PyProof.Rows
set_option Elab.async false
set_option maxRecDepth 100000
namespace Mine
section
variable {prog : Program} {w : World} {g : Ad} {Φ : Fns} {L : Nat} {n : Nat} {ns : List Str} {gs : Gs} {env : Env} {own : Option Addr} {s : Shared} {ρ : List D} {A : Around}

theorem plain_args1 {a : Expr} {pos : Pos} (ha : ∀ x p, a ≠ .Starred x p) : (backTo pos (starEach [a] env)).any (·.1) = false := by rw [star_of ha]; rfl
theorem plain_args2 {a b : Expr} {pos : Pos} (ha : ∀ x p, a ≠ .Starred x p) (hb : ∀ x p, b ≠ .Starred x p) : (backTo pos (starEach [a, b] env)).any (·.1) = false := by rw [star_of ha, star_of hb]; rfl
theorem plain_args3 {a b c : Expr} {pos : Pos} (ha : ∀ x p, a ≠ .Starred x p) (hb : ∀ x p, b ≠ .Starred x p) (hc : ∀ x p, c ≠ .Starred x p) : (backTo pos (starEach [a, b, c] env)).any (·.1) = false := by rw [star_of ha, star_of hb, star_of hc]; rfl
theorem evalArgs_of {M : Model} {f : Value} {a : Expr} {rest : List Expr} {pos : Pos} {Q : Args → Shared → Prop} (ha : ∀ x p, a ≠ .Starred x p)
    (h : wpX M A (spliced (backTo pos (starEach (a :: rest) env))) (fun vs s' => Q ⟨vs, []⟩ s') s) : wpX M A (evalArgs f true (backTo pos (starEach (a :: rest) env)) []) Q s := by
  rw [star_of ha] at h ⊢
  exact evalArgsX h

theorem kind_of {x : Str} (hv : Vw g ns gs env own s ρ) (hG : isG gs x = true) : env.kindOf x = some .globalImplicit := by
  unfold isG at hG
  rcases hv.kinds x _ (by simpa using hG) with h | ⟨h, _⟩
  · exact h
  · cases h
/-- a name of a builtin -/
theorem name_builtin {x : Str} {pos : Pos} {f : Value} {Q : Value → Shared → Prop} (hv : Vw g ns gs env own s ρ) (hG : isG gs x = true) (hd : (x == ("__debug__" : Str)) = false)
    (h : Q f s) (hx : ∃ mg mb, s.heap.Ns mainGlobals mg ∧ s.heap.Ns builtinsNs mb ∧ mg x = none ∧ mb x = some f) : wpX (model prog w) A (eval (.Name x pos) env) Q s := by
  obtain ⟨mg, mb, h1, h2, h3, h4⟩ := hx
  exact .of (Calls.Name_function_global hv.kind (kind_of hv hG) (Calls.loadGlobal_builtin (hv.globals ▸ h1) h3 (hv.builtins ▸ h2) h4 h) hd)
theorem name_global {x : Str} {pos : Pos} {f : Value} {Q : Value → Shared → Prop} (hv : Vw g ns gs env own s ρ) (hG : isG gs x = true) (hd : (x == ("__debug__" : Str)) = false)
    (h : Q f s) (hx : ∃ mg, s.heap.Ns mainGlobals mg ∧ mg x = some f) : wpX (model prog w) A (eval (.Name x pos) env) Q s := by
  obtain ⟨mg, h1, h3⟩ := hx
  exact .of (Calls.Name_function_global hv.kind (kind_of hv hG) (Calls.loadGlobal_global (hv.globals ▸ h1) h3 h) hd)

/-- what may be called -/
noncomputable def Callee (g : Ad) (f : Value) : Prop := (∃ id, f = .builtin id) ∨ (∃ T, f = .type T) ∨ ∃ b, f = .ref b ∧ ∀ h : Heap, GlobOk g h → IsFn h b
theorem callN {args : List (Bool × Sem Value)} {f : Value} {pos : Pos} {z : D} {R : List Value → Shared → Prop} (hv : Vw g ns gs env own s ρ) (hf : Callee g f) (hp : args.any (·.1) = false)
    (arg : ∀ {Q : Args → Shared → Prop}, (∀ vs s', R vs s' → Keeps s s' → Vw g ns gs env own s' ρ → Q ⟨vs, []⟩ s') → wpX (model prog w) A (evalArgs f true args []) Q s)
    (hc : ∀ vs s', Vw g ns gs env own s' ρ → R vs s' → wpX (model prog w) A (call f vs) (Ps own s' z) s') :
    wpX (model prog w) A (callWith pos f [] args []) (Ps own s z) s := by
  rcases hf with ⟨id, rfl⟩ | ⟨T, rfl⟩ | ⟨b, rfl, hb⟩
  · exact callWithX_builtin hp (arg fun vs s' r k v' => wpX_mono (hc vs s' v' r) fun _ _ q => q.trans k)
  · exact callWithX_type hp (arg fun vs s' r k v' => wpX_mono (hc vs s' v' r) fun _ _ q => q.trans k)
  · obtain ⟨o, fd, ho, hd⟩ := hb _ hv.ok
    exact callWithX_function (o := o) (fd := fd) (arg fun vs s' r k v' => ⟨⟨keeps_ext k _ _ ho, hd⟩, wpX_mono (hc vs s' v' r) fun _ _ q => q.trans k⟩)
theorem call1 {a : Expr} {f : Value} {pos : Pos} {x z : D} (ih : EvOk prog w g Φ L n) (hA : AOk A (n + L)) (hv : Vw g ns gs env own s ρ) (hx : ev Φ (tr n ns gs a) ρ = some x) (hf : Callee g f)
    (hc : ∀ v s', Vw g ns gs env own s' ρ → Rp own s'.heap v x → wpX (model prog w) A (call f [v]) (Ps own s' z) s') :
    wpX (model prog w) A (callWith pos f [] (backTo pos (starEach [a] env)) []) (Ps own s z) s :=
  callN (R := fun vs s' => ∃ v, vs = [v] ∧ Rp own s'.heap v x) hv hf (plain_args1 (fail_star hx))
    (fun k => evalArgs_of (fail_star hx) (wpX_items_cons (one ih hA hv hx fun v s' r k' v' => wpX_items_nil (k _ s' ⟨v, rfl, r⟩ k' v')) (star_of (fail_star hx))))
    (by rintro vs s' v' ⟨v, rfl, r⟩; exact hc v s' v' r)
theorem call2 {a b : Expr} {f : Value} {pos : Pos} {x y z : D} (ih : EvOk prog w g Φ L n) (hA : AOk A (n + L)) (hv : Vw g ns gs env own s ρ) (hx : ev Φ (tr n ns gs a) ρ = some x) (hy : ev Φ (tr n ns gs b) ρ = some y) (hf : Callee g f)
    (hc : ∀ v u s', Vw g ns gs env own s' ρ → Rp own s'.heap v x → Rp own s'.heap u y → wpX (model prog w) A (call f [v, u]) (Ps own s' z) s') :
    wpX (model prog w) A (callWith pos f [] (backTo pos (starEach [a, b] env)) []) (Ps own s z) s :=
  callN (R := fun vs s' => ∃ v u, vs = [v, u] ∧ Rp own s'.heap v x ∧ Rp own s'.heap u y) hv hf (plain_args2 (fail_star hx) (fail_star hy))
    (fun k => evalArgs_of (fail_star hx) (wpX_items_cons (one ih hA hv hx fun v s₁ r₁ k₁ v₁ => wpX_items_cons (one ih hA v₁ hy fun u s₂ r₂ k₂ v₂ => wpX_items_nil (k _ s₂ ⟨v, u, rfl, r₁.ext (keeps_ext k₂), r₂⟩ (keeps_trans k₁ k₂) v₂)) (star_of (fail_star hy))) (star_of (fail_star hx))))
    (by rintro vs s' v' ⟨v, u, rfl, r, r'⟩; exact hc v u s' v' r r')
theorem call3 {a b c : Expr} {f : Value} {pos : Pos} {x y t z : D} (ih : EvOk prog w g Φ L n) (hA : AOk A (n + L)) (hv : Vw g ns gs env own s ρ) (hx : ev Φ (tr n ns gs a) ρ = some x) (hy : ev Φ (tr n ns gs b) ρ = some y) (ht : ev Φ (tr n ns gs c) ρ = some t) (hf : Callee g f)
    (hc : ∀ v u r s', Vw g ns gs env own s' ρ → Rp own s'.heap v x → Rp own s'.heap u y → Rp own s'.heap r t → wpX (model prog w) A (call f [v, u, r]) (Ps own s' z) s') :
    wpX (model prog w) A (callWith pos f [] (backTo pos (starEach [a, b, c] env)) []) (Ps own s z) s :=
  callN (R := fun vs s' => ∃ v u r, vs = [v, u, r] ∧ Rp own s'.heap v x ∧ Rp own s'.heap u y ∧ Rp own s'.heap r t) hv hf (plain_args3 (fail_star hx) (fail_star hy) (fail_star ht))
    (fun k => evalArgs_of (fail_star hx) (wpX_items_cons (one ih hA hv hx fun v s₁ r₁ k₁ v₁ => wpX_items_cons (one ih hA v₁ hy fun u s₂ r₂ k₂ v₂ => wpX_items_cons (one ih hA v₂ ht fun q s₃ r₃ k₃ v₃ =>
      wpX_items_nil (k _ s₃ ⟨v, u, q, rfl, (r₁.ext (keeps_ext k₂)).ext (keeps_ext k₃), r₂.ext (keeps_ext k₃), r₃⟩ (keeps_trans k₁ (keeps_trans k₂ k₃)) v₃)) (star_of (fail_star ht))) (star_of (fail_star hy))) (star_of (fail_star hx))))
    (by rintro vs s' v' ⟨v, u, r, rfl, r1, r2, r3⟩; exact hc v u r s' v' r1 r2 r3)

theorem case_f1 {f : Str} {k : F1} {a : Expr} {np pos : Pos} {d : D} (ih : EvOk prog w g Φ L n) (hΦ : FnsOk prog w g Φ L) (hA : AOk A (n + L)) (hv : Vw g ns gs env own s ρ) (hG : isG gs f = true) (hf : f1Of f = some k) (h : ev Φ (.f1 k (tr n ns gs a)) ρ = some d) :
    wpX (model prog w) A (eval (.Call (.Name f np) [a] [] pos) env) (Ps own s d) s := by
  obtain ⟨x, hx, h⟩ := bindSome h
  obtain ⟨mg, mb, mp, n1, n2, n3, ⟨a1, a2, a3, a4, a5, a6⟩, ⟨b1, b2, b3, b4, b5, b6⟩, ⟨c1, c2, c3, c4, c5, c6⟩, _, _, _⟩ := hv.ok.at_
  have hA0 : AOk A 0 := hA.le (Nat.zero_le _)
  have hAL : AOk A L := hA.le (by lia)
  refine wpX_Call_ofName ?_
  cases byName_some _ hf
  cases k with
  | len => exact name_builtin hv hG (by decide) (call1 ih hA hv hx (.inl ⟨_, rfl⟩) fun v s' v' r => .of (len_sound h r)) ⟨mg, mb, n1, n2, a1, b1⟩
  | sum => exact name_builtin hv hG (by decide) (call1 ih hA hv hx (.inl ⟨_, rfl⟩) fun v s' v' r => .of (sum_sound hA0 h r)) ⟨mg, mb, n1, n2, a2, b2⟩
  | sorted => exact name_builtin hv hG (by decide) (call1 ih hA hv hx (.inl ⟨_, rfl⟩) fun v s' v' r => .of (sorted_sound v'.ownd.lt h r)) ⟨mg, mb, n1, n2, a3, b3⟩
  | range => exact name_builtin hv hG (by decide) (call1 ih hA hv hx (.inr (.inl ⟨_, rfl⟩)) fun v s' v' r => .of (range1_sound v'.ownd.lt h r)) ⟨mg, mb, n1, n2, a4, b4⟩
  | bytes => exact name_builtin hv hG (by decide) (call1 ih hA hv hx (.inr (.inl ⟨_, rfl⟩)) fun v s' v' r => .of (bytes_sound h r)) ⟨mg, mb, n1, n2, a5, b5⟩
  | parts => exact name_global hv hG (by decide) (call1 ih hA hv hx (.inr (.inr ⟨_, rfl, fun h x => x.isFn.1⟩)) fun v s' v' r => hΦ.parts A s' own v x d hAL v'.ok v'.toks v'.ownd r h) ⟨mg, n1, c1⟩
  | hooks => exact name_global hv hG (by decide) (call1 ih hA hv hx (.inr (.inr ⟨_, rfl, fun h x => x.isFn.2.1⟩)) fun v s' v' r => hΦ.hooks A s' own v x d hAL v'.ok v'.toks v'.ownd r h) ⟨mg, n1, c2⟩
  | decode => exact name_global hv hG (by decide) (call1 ih hA hv hx (.inr (.inr ⟨_, rfl, fun h x => x.isFn.2.2.1⟩)) fun v s' v' r => hΦ.decode A s' own v x d hAL v'.ok v'.toks v'.ownd r h) ⟨mg, n1, c3⟩
theorem case_f2 {f : Str} {k : F2} {a b : Expr} {np pos : Pos} {d : D} (ih : EvOk prog w g Φ L n) (hΦ : FnsOk prog w g Φ L) (hA : AOk A (n + L)) (hv : Vw g ns gs env own s ρ) (hG : isG gs f = true) (hf : f2Of f = some k) (h : ev Φ (.f2 k (tr n ns gs a) (tr n ns gs b)) ρ = some d) :
    wpX (model prog w) A (eval (.Call (.Name f np) [a, b] [] pos) env) (Ps own s d) s := by
  obtain ⟨x, hx, h⟩ := bindSome h
  obtain ⟨y, hy, h⟩ := bindSome h
  obtain ⟨mg, mb, mp, n1, n2, n3, ⟨a1, a2, a3, a4, a5, a6⟩, ⟨b1, b2, b3, b4, b5, b6⟩, ⟨c1, c2, c3, c4, c5, c6⟩, _, _, _⟩ := hv.ok.at_
  have hAL : AOk A L := hA.le (by lia)
  refine wpX_Call_ofName ?_
  cases byName_some _ hf
  cases k with
  | range => exact name_builtin hv hG (by decide) (call2 ih hA hv hx hy (.inr (.inl ⟨_, rfl⟩)) fun v u s' v' r r' => .of (range2_sound v'.ownd.lt h r r')) ⟨mg, mb, n1, n2, a4, b4⟩
  | encode => exact name_global hv hG (by decide) (call2 ih hA hv hx hy (.inr (.inr ⟨_, rfl, fun h x => x.isFn.2.2.2.1⟩)) fun v u s' v' r r' => hΦ.encode A s' own v u x y d hAL v'.ok v'.toks v'.ownd r r' h) ⟨mg, n1, c4⟩
  | swap => exact name_global hv hG (by decide) (call2 ih hA hv hx hy (.inr (.inr ⟨_, rfl, fun h x => x.isFn.2.2.2.2.1⟩)) fun v u s' v' r r' => hΦ.swap A s' own v u x y d hAL v'.ok v'.toks v'.ownd r r' h) ⟨mg, n1, c5⟩
theorem case_f3 {f : Str} {k : F3} {a b c : Expr} {np pos : Pos} {d : D} (ih : EvOk prog w g Φ L n) (hΦ : FnsOk prog w g Φ L) (hA : AOk A (n + L)) (hv : Vw g ns gs env own s ρ) (hG : isG gs f = true) (hf : f3Of f = some k) (h : ev Φ (.f3 k (tr n ns gs a) (tr n ns gs b) (tr n ns gs c)) ρ = some d) :
    wpX (model prog w) A (eval (.Call (.Name f np) [a, b, c] [] pos) env) (Ps own s d) s := by
  obtain ⟨x, hx, h⟩ := bindSome h
  obtain ⟨y, hy, h⟩ := bindSome h
  obtain ⟨t, ht, h⟩ := bindSome h
  obtain ⟨mg, mb, mp, n1, n2, n3, ⟨a1, a2, a3, a4, a5, a6⟩, ⟨b1, b2, b3, b4, b5, b6⟩, ⟨c1, c2, c3, c4, c5, c6⟩, _, _, _⟩ := hv.ok.at_
  have hAL : AOk A L := hA.le (by lia)
  refine wpX_Call_ofName ?_
  cases byName_some _ hf
  cases k with
  | range => exact name_builtin hv hG (by decide) (call3 ih hA hv hx hy ht (.inr (.inl ⟨_, rfl⟩)) fun v u q s' v' r r' r'' => .of (range3_sound v'.ownd.lt h r r' r'')) ⟨mg, mb, n1, n2, a4, b4⟩
  | moved => exact name_global hv hG (by decide) (call3 ih hA hv hx hy ht (.inr (.inr ⟨_, rfl, fun h x => x.isFn.2.2.2.2.2⟩)) fun v u q s' v' r r' r'' => hΦ.moved A s' own v u q x y t d hAL v'.ok v'.toks v'.ownd r r' r'' h) ⟨mg, n1, c6⟩
end
end Mine

end
section
open PySem PySem.W PyProof.Rows
set_option Elab.async false
set_option maxRecDepth 100000
namespace Mine
theorem base_of {o : Expr} {name : Str} {env : Env} {whole : Sem Value} (h : ∀ id p q, o ≠ .Call (.Name id p) [] [] q) : attributeBase o name env whole = whole := by
  cases o with
  | Call f a k q => cases f with
    | Name x p => cases a with
      | nil => cases k with
        | nil => exact absurd rfl (h _ _ _)
        | cons _ _ => rfl
      | cons _ _ => rfl
    | _ => rfl
  | _ => rfl
theorem wpX_Call_method {prog : Program} {w : World} {A : Around} {s : Shared} {env : Env} {o : Expr} {name : Str} {apos pos : Pos} {args : List Expr} {T id : String} {Q : Value → Shared → Prop}
    (hbase : attributeBase o name env (eval o env) = eval o env)
    (hfew : methodCallForm (args.length + ([] : List Keyword).length) (backTo pos (starEach args env)) (backToKw pos (keywordEach [] env)) = true)
    (hline : (apos.endLine == pos.line) = true)
    (pa : PlainAttrs T) (slot : Slot T name id) (hty : typeOf (.builtin id) = pure (.type "method_descriptor"))
    (h : wpX (model prog w) A (eval o env) (fun ov s₁ => s₁.TypeIs ov T ∧ (∀ a, ov = .ref a → ∃ ob, s₁.heap.get? a = some ob ∧ ob.dict = none) ∧
      wpX (model prog w) A (callWith pos (.builtin id) [ov] (backTo pos (starEach args env)) []) Q s₁) s) :
    wpX (model prog w) A (eval (.Call (.Attribute o name apos) args [] pos) env) Q s := by
  rw [arm_eval_Call, hbase]
  refine wpX_bind (wpX_mono h fun ov s₁ h₁ => ?_)
  obtain ⟨hT, hd, hc⟩ := h₁
  refine wpX_stand ?_
  have hpos : methodCallPos true o env apos pos = pure pos := by unfold methodCallPos; simp [hline]
  unfold methodCall
  rw [hfew]
  refine wpX_bind (wpX_holding (.of (getMethod_builtin hT pa slot hty hd ?_)))
  exact wpX_eq hpos hc
section
variable {prog : Program} {w : World} {g : Ad} {Φ : Fns} {L : Nat} {n : Nat} {ns : List Str} {gs : Gs} {env : Env} {own : Option Addr} {s : Shared} {ρ : List D} {A : Around}
/-- a test whose value is taken and asked for its truth -/
theorem test_value {e : Expr} {b : Bool} (ih : EvOk prog w g Φ L n) (hA : AOk A (n + L)) (hv : Vw g ns gs env own s ρ) (h : (ev Φ (tr n ns gs e) ρ).bind truthy = some b)
    (he : isTrue e env (eval e env) = (do let v ← eval e env; standAt e.pos; holding [v] (PySem.truthy v))) : wpX (model prog w) A (isTrue e env (eval e env)) (fun b' s' => b' = b ∧ Keeps s s') s := by
  obtain ⟨x, hx, h⟩ := bindSome h
  exact wpX_isTrue_value (one ih hA hv hx fun v s' r k v' => wpX_mono (.of (truthy_sound h r)) fun _ _ q => ⟨q.1, keeps_trans k q.2⟩) he
theorem test_not {e : Expr} {pos : Pos} {b : Bool} (it : TtOk prog w g Φ L n) (hA : AOk A (n + L)) (hv : Vw g ns gs env own s ρ) (h : (ev Φ (.not (trT n ns gs e)) ρ).bind truthy = some b) {whole : Sem Value} :
    wpX (model prog w) A (isTrue (.UnaryOp .Not e pos) env whole) (fun b' s' => b' = b ∧ Keeps s s') s := by
  obtain ⟨x, hx, h⟩ := bindSome h
  obtain ⟨c, hc, rfl⟩ := Option.map_eq_some_iff.mp hx
  cases h
  exact wpX_isTrue_Not (wpX_mono (it ns gs e env own s ρ c A hA hv hc) fun _ _ q => ⟨by rw [q.1], q.2⟩)
theorem and_split {t u : X} {b : Bool} (h : (ev Φ (.and t u) ρ).bind truthy = some b) : ∃ c, (ev Φ t ρ).bind truthy = some c ∧ ((c = true ∧ (ev Φ u ρ).bind truthy = some b) ∨ (c = false ∧ b = false)) := by
  obtain ⟨x, hx, h⟩ := bindSome h
  obtain ⟨c, hc, hx⟩ := bindSome hx
  refine ⟨c, hc, ?_⟩
  cases c with
  | true =>
    obtain ⟨d, hd, rfl⟩ := Option.map_eq_some_iff.mp hx
    cases h
    exact .inl ⟨rfl, hd⟩
  | false =>
    cases hx
    exact .inr ⟨rfl, (Option.some.inj h).symm⟩
theorem all_cons {a : Expr} {rest : List Expr} {b c : Bool} (it : TtOk prog w g Φ L n) (hA : AOk A (n + L)) (hv : Vw g ns gs env own s ρ) (hc : (ev Φ (trT n ns gs a) ρ).bind truthy = some c)
    (k : c = true → ∀ s', Vw g ns gs env own s' ρ → wpX (model prog w) A (allTrue .And rest env) (fun b' s'' => b' = b ∧ Keeps s' s'') s') (k0 : c = false → b = false) :
    wpX (model prog w) A (allTrue .And (a :: rest) env) (fun b' s' => b' = b ∧ Keeps s s') s := by
  refine wpX_allTrue_cons (wpX_mono (wpX_toks (it ns gs a env own s ρ c A hA hv hc)) ?_)
  rintro b' s' ⟨ht, rfl, k'⟩
  cases b' with
  | true => exact wpX_mono (k rfl s' (hv.next k' ht)) fun _ _ q => ⟨q.1, keeps_trans k' q.2⟩
  | false => exact ⟨(k0 rfl).symm, k'⟩
end
end Mine

end
section
open PySem PySem.W PyProof.Rows
set_option Elab.async false
set_option maxRecDepth 100000
namespace Mine
section
variable {prog : Program} {w : World} {g : Ad} {Φ : Fns} {L : Nat} {n : Nat} {ns : List Str} {gs : Gs} {env : Env} {own : Option Addr} {s : Shared} {ρ : List D} {A : Around}
theorem fail_call0 {o : Expr} {d : D} (h : ev Φ (tr n ns gs o) ρ = some d) : ∀ id p q, o ≠ .Call (.Name id p) [] [] q := by
  rintro id p q rfl
  cases n with
  | zero => exact fail_no h
  | succ n => exact fail_no (ifX_ev (c := isG gs id) (a := .fail) h).2
noncomputable def IsKind (T : String) (x : D) : Prop := (T = "str" ∧ ∃ l, x = .sc (.str l)) ∨ (T = "bytes" ∧ ∃ l, x = .sc (.bytes l))
theorem IsKind.typeIs {T : String} {x : D} {v : Value} (k : IsKind T x) (r : Rp own s.heap v x) : s.TypeIs v T ∧ ∀ a, v = .ref a → ∃ ob, s.heap.get? a = some ob ∧ ob.dict = none := by
  rcases k with ⟨rfl, l, rfl⟩ | ⟨rfl, l, rfl⟩
  · obtain ⟨t, rfl⟩ := r.str; exact ⟨typeIs_str _ _ _, fun _ e => nomatch e⟩
  · obtain ⟨t, rfl⟩ := r.bytes; exact ⟨typeIs_bytes _ _ _, fun _ e => nomatch e⟩
theorem meth {o : Expr} {name : Str} {apos pos : Pos} {args : List Expr} {T id : String} {x z : D} (ih : EvOk prog w g Φ L n) (hA : AOk A (n + L)) (hv : Vw g ns gs env own s ρ) (hx : ev Φ (tr n ns gs o) ρ = some x) (hk : IsKind T x)
    (hfew : methodCallForm (args.length + ([] : List Keyword).length) (backTo pos (starEach args env)) (backToKw pos (keywordEach [] env)) = true) (hline : (apos.endLine == pos.line) = true)
    (pa : PlainAttrs T) (slot : Slot T name id) (hty : typeOf (.builtin id) = pure (.type "method_descriptor"))
    (hc : ∀ v s', Vw g ns gs env own s' ρ → Rp own s'.heap v x → wpX (model prog w) A (callWith pos (.builtin id) [v] (backTo pos (starEach args env)) []) (Ps own s' z) s') :
    wpX (model prog w) A (eval (.Call (.Attribute o name apos) args [] pos) env) (Ps own s z) s :=
  wpX_Call_method (base_of (fail_call0 hx)) hfew hline pa slot hty (one ih hA hv hx fun v s' r k v' => ⟨(hk.typeIs r).1, (hk.typeIs r).2, wpX_mono (hc v s' v' r) fun _ _ q => q.trans k⟩)
/-- no argument -/
theorem with0 {id : String} {pos : Pos} {v : Value} {Q : Value → Shared → Prop} (h : wpX (model prog w) A (call (.builtin id) [v]) Q s) : wpX (model prog w) A (callWith pos (.builtin id) [v] (backTo pos (starEach [] env)) []) Q s :=
  callWithX_builtin rfl (.of (PySem.evalArgs_none h))
/-- one text -/
theorem with1 {id : String} {pos p : Pos} {v : Value} {a : Str} {k : Nat} {Q : Value → Shared → Prop} (h : wpX (model prog w) A (call (.builtin id) [v, .str a s.toks]) Q { s with toks := s.toks + 1 }) :
    wpX (model prog w) A (callWith pos (.builtin id) [v] (backTo pos (starEach [.Constant (.str a) k p] env)) []) Q s :=
  callWithX_builtin rfl (evalArgs_of (fun _ _ e => nomatch e) (wpX_items_cons (.of (wpAny_Constant_str (wpX_items_nil h))) rfl))
theorem with2 {id : String} {pos p q : Pos} {v : Value} {a b : Str} {k j : Nat} {Q : Value → Shared → Prop} (h : wpX (model prog w) A (call (.builtin id) [v, .str a s.toks, .str b (s.toks + 1)]) Q { s with toks := s.toks + 1 + 1 }) :
    wpX (model prog w) A (callWith pos (.builtin id) [v] (backTo pos (starEach [.Constant (.str a) k p, .Constant (.str b) j q] env)) []) Q s :=
  callWithX_builtin rfl (evalArgs_of (fun _ _ e => nomatch e) (wpX_items_cons (.of (wpAny_Constant_str (wpX_items_cons (.of (wpAny_Constant_str (wpX_items_nil h))) rfl))) rfl))
theorem meth0_kind {m : M0} {x z : D} (h : meth0 m x = some z) : IsKind (if m = .decode then "bytes" else "str") x := by
  cases m with
  | decode => obtain ⟨l, hl, _⟩ := bindSome h; exact .inr ⟨rfl, l, D.bytes_some hl⟩
  | _ => obtain ⟨l, hl, _⟩ := bindSome h; exact .inl ⟨rfl, l, D.str_some hl⟩
theorem next1 (hv : Vw g ns gs env own s ρ) : Vw g ns gs env own { s with toks := s.toks + 1 } ρ := hv.next (keeps_toks s _) (Nat.le_succ _)
theorem case_m0 {o : Expr} {name : Str} {apos pos : Pos} {args : List Expr} {m : M0} {d : D} (ih : EvOk prog w g Φ L n) (hA : AOk A (n + L)) (hv : Vw g ns gs env own s ρ) (hl : (apos.endLine == pos.line) = true) (hm : M0At name args m)
    (hg : m = .translate → isG gs "_QUOPRI_BODY_ENCODE_MAP" = true) (h : ev Φ (.m0 m (tr n ns gs o)) ρ = some d) : wpX (model prog w) A (eval (.Call (.Attribute o name apos) args [] pos) env) (Ps own s d) s := by
  obtain ⟨x, hx, h⟩ := bindSome h
  have hk := meth0_kind h
  cases hm with
  | splitlines => exact meth ih hA hv hx hk rfl hl F.plainAttrs_str F.slot_str_splitlines F.type_str_splitlines fun v s' v' r => with0 (.of (splitlines_sound v'.ownd.lt h r))
  | rstrip => exact meth ih hA hv hx hk rfl hl F.plainAttrs_str F.slot_str_rstrip F.type_str_rstrip fun v s' v' r => with0 (.of (rstrip_sound h r))
  | replace k j p q =>
    exact meth ih hA hv hx hk rfl hl F.plainAttrs_str F.slot_str_replace F.type_str_replace fun v s' v' r => with2 (wpX_mono (.of (replDot_sound (s := { s' with toks := s'.toks + 1 + 1 }) h r (Nat.ne_of_gt v'.toks) (Nat.succ_ne_zero _) (Nat.ne_of_lt (Nat.lt_succ_self _)))) fun _ _ q => q.trans (keeps_toks s' _))
  | encode k p =>
    exact meth ih hA hv hx hk rfl hl F.plainAttrs_str F.slot_str_encode F.type_str_encode fun v s' v' r => with1 (wpX_mono (.of (encode_sound (s := { s' with toks := s'.toks + 1 }) h r)) fun _ _ q => q.trans (keeps_toks s' _))
  | decode k p =>
    exact meth ih hA hv hx hk rfl hl FB.plainAttrs_bytes FB.slot_bytes_decode FB.type_bytes_decode fun v s' v' r => with1 (wpX_mono (.of (decode_sound (s := { s' with toks := s'.toks + 1 }) h r)) fun _ _ q => q.trans (keeps_toks s' _))
  | splitNL k p =>
    exact meth ih hA hv hx hk rfl hl F.plainAttrs_str F.slot_str_split F.type_str_split fun v s' v' r => with1 (wpX_mono (.of (splitNL_sound (s := { s' with toks := s'.toks + 1 }) v'.ownd.lt h r)) fun _ _ q => q.trans (keeps_toks s' _))
  | count k p =>
    exact meth ih hA hv hx hk rfl hl F.plainAttrs_str F.slot_str_count F.type_str_count fun v s' v' r => with1 (wpX_mono (.of (countDot_sound (s := { s' with toks := s'.toks + 1 }) h r)) fun _ _ q => q.trans (keeps_toks s' _))
  | translate p =>
    refine meth ih hA hv hx hk rfl hl F.plainAttrs_str F.slot_str_translate F.type_str_translate fun v s' v' r => callWithX_builtin rfl (evalArgs_of (fun _ _ e => nomatch e) (wpX_items_cons ?_ rfl))
    obtain ⟨mg, mb, mp, n1, n2, n3, _, _, _, _, _, c⟩ := v'.ok.at_
    exact name_global v' (hg rfl) (by decide) (wpX_items_nil (.of (translate_sound n3 h r))) ⟨mg, n1, c⟩
theorem meth1_kind {m : M1} {x y z : D} (h : meth1 m x y = some z) : IsKind "str" x := by
  cases m with
  | join => obtain ⟨l, hl, _⟩ := bindSome h; exact .inl ⟨rfl, l, D.str_some hl⟩
  | endswith => obtain ⟨l, hl, _⟩ := bindSome h; exact .inl ⟨rfl, l, D.str_some hl⟩
theorem few1 {a : Expr} {pos : Pos} (ha : ∀ x p, a ≠ .Starred x p) : methodCallForm ([a].length + ([] : List Keyword).length) (backTo pos (starEach [a] env)) (backToKw pos (keywordEach [] env)) = true := by rw [star_of ha]; rfl
theorem case_m1 {o a : Expr} {name : Str} {apos pos : Pos} {m : M1} {d : D} (ih : EvOk prog w g Φ L n) (hA : AOk A (n + L)) (hv : Vw g ns gs env own s ρ) (hl : (apos.endLine == pos.line) = true) (hm : m1Of name = some m)
    (h : ev Φ (.m1 m (tr n ns gs o) (tr n ns gs a)) ρ = some d) : wpX (model prog w) A (eval (.Call (.Attribute o name apos) [a] [] pos) env) (Ps own s d) s := by
  obtain ⟨x, hx, h⟩ := bindSome h
  obtain ⟨y, hy, h⟩ := bindSome h
  have hk := meth1_kind h
  have hs := fail_star hy
  rcases m1Of_some hm with ⟨rfl, rfl⟩ | ⟨rfl, rfl⟩
  · exact meth ih hA hv hx hk (few1 hs) hl F.plainAttrs_str F.slot_str_join F.type_str_join fun v s' v' r => callWithX_builtin (plain_args1 hs) (evalArgs_of hs (wpX_items_cons (one ih hA v' hy fun u s'' r' k v'' => wpX_items_nil
      (wpX_mono (.of (join_sound h (r.ext (keeps_ext k)) r')) fun _ _ q => q.trans k)) (star_of hs)))
  · exact meth ih hA hv hx hk (few1 hs) hl F.plainAttrs_str F.slot_str_endswith F.type_str_endswith fun v s' v' r => callWithX_builtin (plain_args1 hs) (evalArgs_of hs (wpX_items_cons (one ih hA v' hy fun u s'' r' k v'' => wpX_items_nil
      (wpX_mono (.of (endswith_sound h (r.ext (keeps_ext k)) r')) fun _ _ q => q.trans k)) (star_of hs)))
end
end Mine

end
section
open PySem PySem.W PyProof.Rows
set_option Elab.async false
set_option maxRecDepth 100000
namespace Mine

/-- only the addresses in T have turned -/
noncomputable def Mv (T : List Addr) (s s' : Shared) : Prop := ∃ h' tk, s' = { s with heap := h', toks := tk } ∧ (∀ b o, b ∉ T → s.heap.get? b = some o → h'.get? b = some o) ∧ s.toks ≤ tk
theorem Mv.refl (T : List Addr) (s : Shared) : Mv T s s := ⟨s.heap, s.toks, rfl, fun _ _ _ e => e, Nat.le_refl _⟩
theorem Mv.trans {T : List Addr} {a b c : Shared} (x : Mv T a b) (y : Mv T b c) : Mv T a c := by
  obtain ⟨h1, t1, rfl, e1, l1⟩ := x
  obtain ⟨h2, t2, rfl, e2, l2⟩ := y
  exact ⟨h2, t2, rfl, fun b o hb e => e2 b o hb (e1 b o hb e), Nat.le_trans l1 l2⟩
theorem Mv.mono {T T' : List Addr} {a b : Shared} (x : Mv T a b) (h : ∀ t ∈ T, t ∈ T') : Mv T' a b := by
  obtain ⟨h1, t1, rfl, e1, l1⟩ := x
  exact ⟨h1, t1, rfl, fun b o hb e => e1 b o (fun hm => hb (h b hm)) e, l1⟩
theorem Mv.of_keeps {T : List Addr} {a b : Shared} (x : Keeps a b) (l : a.toks ≤ b.toks) : Mv T a b := by
  obtain ⟨h1, t1, rfl, e1⟩ := x
  exact ⟨h1, t1, rfl, fun b o _ e => e1 b o e, l⟩
theorem Mv.of_same {T : List Addr} {s : Shared} {h' : Heap} {a : Addr} {tk : Nat} (x : Heap.SameBut a s.heap h') (ha : a ∈ T) (l : s.toks ≤ tk) : Mv T s { s with heap := h', toks := tk } :=
  ⟨h', tk, rfl, fun b o hb e => x.extBut b o (fun e' => hb (e' ▸ ha)) e, l⟩
theorem Mv.get {T : List Addr} {s s' : Shared} (x : Mv T s s') {b : Addr} {o : Obj} (hb : b ∉ T) (e : s.heap.get? b = some o) : s'.heap.get? b = some o := by
  obtain ⟨h1, t1, rfl, e1, l1⟩ := x
  exact e1 b o hb e
theorem Mv.keeps {T : List Addr} {s s' : Shared} (x : Mv T s s') (h : ∀ t ∈ T, s.heap.get? t = none) : Keeps s s' := by
  obtain ⟨h1, t1, rfl, e1, l1⟩ := x
  exact ⟨h1, t1, rfl, fun b o e => e1 b o (fun hb => by rw [h b hb] at e; cases e) e⟩
theorem Mv.toks {T : List Addr} {s s' : Shared} (x : Mv T s s') : s.toks ≤ s'.toks := by obtain ⟨h1, t1, rfl, e1, l1⟩ := x; exact l1
theorem fresh_none {h : Heap} {a : Addr} (x : h.objs.size ≤ a) : h.get? a = none := by
  cases e : h.get? a with
  | none => rfl
  | some o => exact absurd (Heap.lt_size e) (Nat.not_lt.mpr x)

/-- the object of an iterator -/
noncomputable def ItObj (o : Obj) : Prop := o.cls = .type "list_iterator" ∨ o.cls = .type "range_iterator" ∨ o.cls = .type "str_ascii_iterator"
/-- what a source gives at a place -/
noncomputable def PofL (l : List D) (i : Nat) (v : Value) : Prop := ∃ c, l[i]? = some (.sc c) ∧ toSc v = some c

theorem rangeSize_is {a b c : Int} (hc : 0 < c) : Builtin.Range.rangeSize a b c = (((b - a + c - 1) / c).toNat : Int) := by
  unfold Builtin.Range.rangeSize
  rw [if_pos hc]
  by_cases h : a < b
  · rw [if_pos h]
    have e : b - a + c - 1 = (b - a - 1) + c := by lia
    rw [e, Int.add_ediv_of_dvd_right (Int.dvd_refl c), Int.ediv_self (by lia)]
    have : 0 ≤ (b - a - 1) / c := Int.ediv_nonneg (by lia) (by lia)
    lia
  · rw [if_neg h]
    have : (b - a + c - 1) / c ≤ 0 := by
      have : (b - a + c - 1) / c < 1 := Int.ediv_lt_of_lt_mul hc (by lia)
      lia
    lia
theorem div_small {x c : Int} (hc : 0 < c) (hx : 0 ≤ x) : 0 ≤ x / c ∧ x / c ≤ x := ⟨Int.ediv_nonneg hx (by lia), Int.ediv_le_self c hx⟩

section
variable {prog : Program} {w : World} {A : Around} {E : Value → Shared → Prop} {s : Shared} {own : Option Addr}

theorem range_small {a b c : Int} (hc : 0 < c) (hc' : c ≤ 1000000) (ha : smallI a = true) (hb : smallI b = true) : Builtin.Range.small a b c = true := by
  have ha := small_i ha
  have hb := small_i hb
  have hs : 0 ≤ Builtin.Range.rangeSize a b c ∧ Builtin.Range.rangeSize a b c ≤ 3000000 := by
    rw [rangeSize_is hc]
    refine ⟨Int.natCast_nonneg _, ?_⟩
    by_cases h : 0 ≤ b - a + c - 1
    · have := div_small hc h; lia
    · have : (b - a + c - 1) / c ≤ 0 := by
        have : (b - a + c - 1) / c < 1 := Int.ediv_lt_of_lt_mul hc (by lia)
        lia
      lia
  unfold Builtin.Range.small Builtin.Range.rangeFitsLong
  simp only [Bool.and_eq_true, Bool.or_eq_true, decide_eq_true_eq, beq_iff_eq]
  have e63 : (2 : Int) ^ 63 = 9223372036854775808 := by decide
  refine ⟨⟨⟨⟨?_, ?_⟩, ?_⟩, ?_⟩, .inr ?_⟩
  all_goals first
    | (rw [if_pos (by lia)]; simp only [decide_eq_true_eq, Bool.and_eq_true]; lia)
    | lia
    | skip

theorem iter_sound {x : D} {l : List D} {v : Value} {Q : Value → Shared → Prop} (h : items x = some l) (r : Rp own s.heap v x)
    (k : ∀ (o : Obj) (fp : List Addr) (St : Nat → Heap → Prop), (∀ A' : Around, A'.handled = none → Walks prog w A' s.heap.objs.size fp [s.heap.objs.size] l.length (PofL l) St) → St 0 (s.heap.push o) →
      (∀ b ∈ fp, b = s.heap.objs.size ∨ (own ≠ some b ∧ ∃ vs : List Value, s.heap.PlainList b vs.toArray)) →
      (∀ i h, St i h → ∃ ob es, h.get? s.heap.objs.size = some ob ∧ ItObj ob ∧ ob.data = .fields es) → Q (.ref s.heap.objs.size) { s with heap := s.heap.push o }) :
    wpAny (model prog w) A (pyIter v) Q E s := by
  cases x with
  | list l =>
    cases h
    cases r with
    | @list a vs _ p ar hn =>
      have hax := Heap.lt_size p.isList.choose_spec.1
      refine wpAny_pyIter_list p.isList (k _ [s.heap.objs.size, a] (fun i h => h.IsListIter s.heap.objs.size a i ∧ h.IsList a vs.toArray) (fun A' hA => ?_) ⟨⟨_, Heap.get?_push_size _ rfl, rfl, rfl⟩, p.isList.push _⟩ ?_ fun i h st => let ⟨o, h1, h2, h3⟩ := st.1; ⟨o, _, h1, .inl h2, h3⟩)
      · have W := Walks.list (prog := prog) (w := w) hA s.heap.objs.size a (Nat.ne_of_lt hax) vs.toArray
        have e : vs.toArray.size = (List.map D.sc l).length := by rw [List.size_toArray, List.length_map]; exact ar.length
        rw [e] at W
        refine W.weaken ?_
        intro i v hv
        have hv : vs[i]? = some v := by simpa using hv
        have hlt : i < l.length := by rw [← ar.length]; exact (List.getElem?_eq_some_iff.mp hv).1
        obtain ⟨v', hv', hc⟩ := ar.get (List.getElem?_eq_getElem hlt)
        rw [hv] at hv'; cases hv'
        exact ⟨l[i], by simp [hlt], hc⟩
      · intro b hb
        rcases List.mem_cons.mp hb with rfl | hb
        · exact .inl rfl
        · rcases List.mem_cons.mp hb with rfl | hb
          · exact .inr ⟨hn, vs, p⟩
          · cases hb
  | rng a b c =>
      obtain ⟨hsm, h⟩ := ite_some h
      cases h
      simp only [Bool.and_eq_true, decide_eq_true_eq] at hsm
      obtain ⟨⟨⟨ha, hb⟩, hc⟩, h0⟩ := hsm
      cases r with
      | @rng r _ _ _ t u v p hn =>
        have hc' := (small_i hc).2
        refine wpAny_pyIter_range p (range_small h0 hc' ha hb) (k _ [s.heap.objs.size] (fun i h => IsRangeIter h s.heap.objs.size (a + (i : Nat) * c) (((((b - a + c - 1) / c).toNat : Nat) : Int) - (i : Nat)) c) (fun A' hA => ?_) ?_ ?_ fun i h st => ⟨_, _, st, .inr (.inl rfl), rfl⟩)
        · have W := Walks.range (prog := prog) (w := w) hA s.heap.objs.size a c ((b - a + c - 1) / c).toNat
          have e : ((b - a + c - 1) / c).toNat = (List.map (fun i => D.sc (Sc.int i)) (rangeL a b c)).length := by simp [rangeL]
          rw [← e]
          refine W.bound.weaken ?_
          rintro i v ⟨hi, t, rfl⟩
          refine ⟨.int (a + i * c), ?_, rfl⟩
          simp only [rangeL, List.map_map, List.getElem?_map, List.getElem?_range hi, Option.map_some, Function.comp]
          rw [Int.mul_comm]
        · show IsRangeIter _ _ _ _ _
          have := rangeSize_is (a := a) (b := b) h0
          rw [this]
          simpa using Heap.get?_push_size _ rfl
        · intro b hb
          rcases List.mem_cons.mp hb with rfl | hb
          · exact .inl rfl
          · cases hb
  | sc c => cases c with
    | str l =>
      obtain ⟨hl0, h⟩ := ite_some h
      cases h
      obtain ⟨t, rfl⟩ := r.str
      have hall : (Str.mk l.toArray).cps.all (· < 128) = true := by rw [← hl0]; simp
      refine wpAny_pyIter_ascii hall (k _ [s.heap.objs.size] (fun i h => h.IsStrIter s.heap.objs.size "str_ascii_iterator" (Str.mk l.toArray) t i) (fun A' hA => ?_) ⟨_, Heap.get?_push_size _ rfl, rfl, rfl⟩ ?_ fun i h st => let ⟨o, h1, h2, h3⟩ := st; ⟨o, _, h1, .inr (.inr h2), h3⟩)
      · have e : (Str.mk l.toArray).cps.size = (List.map (fun c => D.sc (Sc.str [c])) l).length := by simp
        have W := Walks.strAscii (prog := prog) (w := w) hA s.heap.objs.size (Str.mk l.toArray) t
        rw [e] at W
        refine W.weaken ?_
        rintro i v ⟨c, u, hc, rfl⟩
        refine ⟨.str [c], ?_, rfl⟩
        have hc : l[i]? = some c := by simpa using hc
        simp [hc]
      · intro b hb
        rcases List.mem_cons.mp hb with rfl | hb
        · exact .inl rfl
        · cases hb
    | _ => exact nope h
  | _ => exact nope h
end
end Mine

end
section
open PySem PySem.W PyProof.Rows
set_option Elab.async false
set_option maxRecDepth 100000
namespace Mine
section
variable {α : Type} {M : Model} {A : Around} {s : Shared}
theorem wpX_attempt {m : Sem α} {Q : Except Value α → Shared → Prop} (h : wpX M A m (fun a s' => Q (.ok a) s') s) : wpX M A m.attempt Q s := fun Γ p hΓ hc => by
  rw [Sem.wp_attempt]
  exact Sem.wp_mono M Γ m (fun _ _ _ h' => h') (fun _ _ _ h' => h'.elim) p s (h Γ p hΓ hc)
end

/-- the tests of a comprehension, then what it does with an item -/
noncomputable def compBody (ifs : List Expr) (emit : Sem Unit) (env : Env) : Sem Unit :=
  (forIn ifs true fun c r => if r = true then do let ok ← isTrue c env (eval c env); pure (ForInStep.yield ok) else pure (ForInStep.yield r)) >>= fun ok => if ok = true then emit else pure ()
noncomputable def emit1 (elt : Expr) (acc : Value) (env : Env) : Sem Unit := do let _ ← call (.builtin "list.append") [acc, ← eval elt env]
noncomputable def emit2 (e it2 : Expr) (acc : Value) (env : Env) : Sem Unit := do
  let x ← eval it2 env
  standAt it2.pos
  let x ← foldedSetIterable it2 env x
  let _ ← runOwn (.compStart e 1 (← holding [x] (pyIter x)) acc env) env
theorem pure_unit_bind {α : Type} (k : Unit → Sem α) : (pure () : Sem Unit) >>= k = k () := rfl
theorem turn1 (elt target iter : Expr) (ifs : List Expr) (scope : Scope) (pos : Pos) (it acc : Value) (env : Env) :
    compTurn (.ListComp elt [⟨target, iter, ifs, 0⟩] scope pos) 0 it acc env = (standAt iter.pos >>= fun _ => pyNext it >>= fun r => match r with
      | none => pure (.done .next)
      | some v => letOwnedTupleGo target it v >>= fun _ => assign target env v >>= fun _ => compBody ifs (emit1 elt acc env) env >>= fun _ =>
          again (.compLoop (.ListComp elt [⟨target, iter, ifs, 0⟩] scope pos) 0 it acc env)) := by
  rw [compTurn_list]
  congr 1; funext _; congr 1; funext r
  cases r with
  | none => rfl
  | some v =>
    dsimp only
    congr 1; funext _; congr 1; funext _
    unfold compBody emit1
    refine Eq.trans ?_ (LawfulMonad.bind_assoc _ _ _).symm
    congr 1; funext ok
    cases ok <;> rfl
theorem turn2a (elt target iter target2 iter2 : Expr) (ifs2 : List Expr) (scope : Scope) (pos : Pos) (it acc : Value) (env : Env) :
    compTurn (.ListComp elt [⟨target, iter, [], 0⟩, ⟨target2, iter2, ifs2, 0⟩] scope pos) 0 it acc env = (standAt iter.pos >>= fun _ => pyNext it >>= fun r => match r with
      | none => pure (.done .next)
      | some v => letOwnedTupleGo target it v >>= fun _ => assign target env v >>= fun _ => emit2 (.ListComp elt [⟨target, iter, [], 0⟩, ⟨target2, iter2, ifs2, 0⟩] scope pos) iter2 acc env >>= fun _ =>
          again (.compLoop (.ListComp elt [⟨target, iter, [], 0⟩, ⟨target2, iter2, ifs2, 0⟩] scope pos) 0 it acc env)) := by
  show (standAt iter.pos >>= fun _ => pyNext it >>= fun r => _) = _
  congr 1; funext _; congr 1; funext r
  cases r with
  | none => rfl
  | some v =>
    dsimp only
    congr 1; funext _; congr 1; funext _
    unfold emit2
    simp only [LawfulMonad.bind_assoc]
    rfl
theorem turn2b (elt target iter target2 iter2 : Expr) (ifs2 : List Expr) (scope : Scope) (pos : Pos) (it acc : Value) (env : Env) :
    compTurn (.ListComp elt [⟨target, iter, [], 0⟩, ⟨target2, iter2, ifs2, 0⟩] scope pos) 1 it acc env = (standAt iter2.pos >>= fun _ => pyNext it >>= fun r => match r with
      | none => pure (.done .next)
      | some v => letOwnedTupleGo target2 it v >>= fun _ => assign target2 env v >>= fun _ => compBody ifs2 (emit1 elt acc env) env >>= fun _ =>
          again (.compLoop (.ListComp elt [⟨target, iter, [], 0⟩, ⟨target2, iter2, ifs2, 0⟩] scope pos) 1 it acc env)) := by
  show (standAt iter2.pos >>= fun _ => pyNext it >>= fun r => _) = _
  congr 1; funext _; congr 1; funext r
  cases r with
  | none => rfl
  | some v =>
    dsimp only
    congr 1; funext _; congr 1; funext _
    unfold compBody emit1
    refine Eq.trans ?_ (LawfulMonad.bind_assoc _ _ _).symm
    congr 1; funext ok
    cases ok <;> rfl

section
variable {prog : Program} {w : World} {A : Around} {s : Shared} {R : Result → Shared → Prop}
theorem codeX_compLoop {elt : Expr} {gens : List Comprehension} {scope : Scope} {pos : Pos} {k : Nat} {target : Expr} {it acc : Value} {cenv : Env} {p : Pos} {body : Sem Unit}
    (hturn : compTurn (.ListComp elt gens scope pos) k it acc cenv = (standAt p >>= fun _ => pyNext it >>= fun r => match r with
      | none => pure (.done .next)
      | some v => letOwnedTupleGo target it v >>= fun _ => assign target cenv v >>= fun _ => body >>= fun _ => again (.compLoop (.ListComp elt gens scope pos) k it acc cenv)))
    (I : Nat → Shared → Prop)
    (turn : ∀ n s, I n s → wpX (model prog w) A (pyNext it) (fun r s₁ => match r with
      | none => R (.ok .next) s₁
      | some v => wpX (model prog w) A (assign target cenv v) (fun _ s₂ => wpX (model prog w) A body (fun _ s₃ => ∃ m, m < n ∧ I m s₃) s₂) s₁) s)
    (n : Nat) (h : I n s) (ht : ∀ v, letOwnedTupleGo target it v = pure ()) : codeX (model prog w) A (.compLoop (.ListComp elt gens scope pos) k it acc cenv) R s := by
  refine codeX_loop rfl rfl I (fun n s hI => ?_) n h
  show wpX _ A ((compTurn (.ListComp elt gens scope pos) k it acc cenv).onRaise (fun x => do noteFrame x cenv; theTreesLotGoes x)) _ s
  refine wpX_onRaise ?_
  rw [hturn]
  refine wpX_stand (wpX_bind (wpX_mono (turn n s hI) fun r s₁ h₁ => ?_))
  cases r with
  | none => exact wpX_pure h₁
  | some v =>
    refine wpX_eq (ht v) ?_
    exact wpX_bind (wpX_mono h₁ fun _ s₂ h₂ => wpX_bind (wpX_mono h₂ fun _ s₃ h₃ => wpX_pure (.inl ⟨rfl, h₃⟩)))
theorem codeX_compStart {elt : Expr} {gens : List Comprehension} {g : Comprehension} {scope : Scope} {pos : Pos} {k : Nat} {it acc : Value} {cenv : Env} (hg : gens[k]? = some g) (ha : g.is_async = 0)
    (h0 : codeX (model prog w) A (.compLoop (.ListComp elt gens scope pos) k it acc cenv) R s)
    (h : wpX (model prog w) A (pyIter it) (fun it' s' => codeX (model prog w) A (.compLoop (.ListComp elt gens scope pos) k it' acc cenv) R s') s) :
    codeX (model prog w) A (.compStart (.ListComp elt gens scope pos) k it acc cenv) R s := by
  refine codeX_of_tree rfl ?_
  show wpX _ A ((compStart (.ListComp elt gens scope pos) k it acc cenv).onRaise (fun x => do noteFrame x cenv; standAt theWindowsPlace)) _ s
  refine wpX_onRaise ?_
  have e : (clausesOf (.ListComp elt gens scope pos))[k]? = some g := hg
  unfold compStart
  simp only [e, Option.elim, ha, bne_self_eq_false, Bool.false_eq_true, if_false]
  refine wpX_leaf (wpAny_askSetting ?_)
  split
  · exact wpX_bind (wpX_pure (wpX_pure ⟨rfl, h0⟩))
  · refine wpX_leaf (wpAny_rule ?_)
    refine wpX_bind (wpX_stand (wpX_pure ?_))
    exact wpX_bind (wpX_mono h fun it' s' h' => wpX_pure ⟨rfl, h'⟩)
end

/-- the frame of a comprehension at work: its target is a local or a cell -/
structure CF (t : Str) (cl : Bool) (cenv : Env) (Z I X : Addr) (fp : List Addr) : Prop where
  kind : cenv.scope.kind = .function
  tgt : (cl = false ∧ cenv.kindOf t = some .local) ∨ (cl = true ∧ cenv.kindOf t = some .cell ∧ cenv.cells.lookup t = some X ∧ X ≠ I)
  dc : Z ≠ cenv.locals
  di : Z ≠ I
  ci : cenv.locals ≠ I
  xd : X ≠ Z
  xc : X ≠ cenv.locals
  fd : Z ∉ fp
  fc : cenv.locals ∉ fp
  fx : cl = true → X ∉ fp
structure LS (cl : Bool) (cenv : Env) (Z X : Addr) (K : (Str → Option Value) → Prop) (vs : List Value) (l : List Sc) (s : Shared) : Prop where
  acc : s.heap.PlainList Z vs.toArray
  are : Are vs l
  ns : ∃ m, s.heap.Ns cenv.locals m ∧ K m
  cel : cl = true → ∃ v, s.heap.IsCell X v

theorem collect_at {f : D → Option (List Sc)} : ∀ {l : List D} {r : List Sc} {i : Nat} (_ : collect f (l.drop i) = some r) (hi : i < l.length), ∃ a r', f l[i] = some a ∧ collect f (l.drop (i + 1)) = some r' ∧ r = a ++ r' := by
  intro l r i h hi
  rw [List.drop_eq_getElem_cons hi] at h
  simp only [collect] at h
  obtain ⟨a, ha, h⟩ := bindSome h
  obtain ⟨r', hr, rfl⟩ := Option.map_eq_some_iff.mp h
  exact ⟨a, r', ha, hr, rfl⟩

section
variable {prog : Program} {w : World} {A : Around} {R : Result → Shared → Prop}
theorem loop_collect {elt : Expr} {gens : List Comprehension} {scope : Scope} {pos : Pos} {k : Nat} {t : Str} {tp p : Pos} {cenv : Env} {body : Sem Unit} {cl : Bool} {Z I X : Addr} {fp : List Addr} {l : List D} {St : Nat → Heap → Prop}
    (cf : CF t cl cenv Z I X fp) (W : Walks prog w A I fp [I] l.length (PofL l) St)
    (hturn : compTurn (.ListComp elt gens scope pos) k (.ref I) (.ref Z) cenv = (standAt p >>= fun _ => pyNext (.ref I) >>= fun r => match r with
      | none => pure (.done .next)
      | some v => letOwnedTupleGo (.Name t tp) (.ref I) v >>= fun _ => assign (.Name t tp) cenv v >>= fun _ => body >>= fun _ => again (.compLoop (.ListComp elt gens scope pos) k (.ref I) (.ref Z) cenv)))
    (K : (Str → Option Value) → Prop) (hK : ∀ m v, K m → K (fun y => if y = t then some v else m y))
    (f : D → Option (List Sc)) {r : List Sc} (hr : collect f l = some r) (B : Shared → Prop) (hB : ∀ s s', B s → Mv [Z, cenv.locals, I, X] s s' → B s')
    {vs0 : List Value} {l0 : List Sc} (hsz : (l0 ++ r).length ≤ 100000)
    (hbody : ∀ (c : Sc) (v : Value) (vs : List Value) (l1 a : List Sc) (s : Shared), toSc v = some c → f (.sc c) = some a → B s → Ld cenv s.heap t v → LS cl cenv Z X K vs l1 s → (l1 ++ a).length ≤ 100000 →
      (cl = false → ∃ m, s.heap.Ns cenv.locals m ∧ K m ∧ m t = some v) →
      wpX (model prog w) A body (fun _ s' => Mv [Z, cenv.locals] s s' ∧ ∃ ws, LS cl cenv Z X K ws (l1 ++ a) s') s)
    {s : Shared} (hR : ∀ s' vs, Mv [Z, cenv.locals, I, X] s s' → LS cl cenv Z X K vs (l0 ++ r) s' → R (.ok .next) s')
    (ls : LS cl cenv Z X K vs0 l0 s) (hst : St 0 s.heap) (hb : B s) : codeX (model prog w) A (.compLoop (.ListComp elt gens scope pos) k (.ref I) (.ref Z) cenv) R s := by
  refine codeX_compLoop hturn (fun n s' => ∃ i r2 vs l1, n = l.length - i ∧ i ≤ l.length ∧ collect f (l.drop i) = some r2 ∧ l1 ++ r2 = l0 ++ r ∧ LS cl cenv Z X K vs l1 s' ∧ St i s'.heap ∧ B s' ∧ Mv [Z, cenv.locals, I, X] s s') ?_
    l.length ⟨0, r, vs0, l0, rfl, Nat.zero_le _, hr, rfl, ls, hst, hb, .refl _ _⟩ (fun _ => rfl)
  rintro n s1 ⟨i, r2, vs, l1, rfl, hi, hc, hl, ls1, st1, b1, mv1⟩
  by_cases hlt : i < l.length
  · obtain ⟨a, r3, ha, hc3, rfl⟩ := collect_at hc hlt
    have hZI : Z ∉ [I] := by simpa using cf.di
    have hCI : cenv.locals ∉ [I] := by simpa using cf.ci
    refine wpX_mono (wpX_toks (.of (W.item i s1 (fun o s' => ∃ v h2 tk2, o = some v ∧ s' = { s1 with heap := h2, toks := tk2 } ∧ PofL l i v ∧ St (i + 1) h2 ∧ (∀ b o, b ∉ [I] → s1.heap.get? b = some o → h2.get? b = some o)) _ hlt st1
      fun v h2 tk2 hP st2 hk2 => ⟨v, h2, tk2, rfl, rfl, hP, st2, hk2⟩))) ?_
    rintro o s2 ⟨htk, v, h2, tk2, rfl, rfl, ⟨c, hcl, hcv⟩, st2, hk2⟩
    have hf : f (.sc c) = some a := by
      rw [List.getElem?_eq_getElem hlt] at hcl
      rw [← Option.some.inj hcl]; exact ha
    have mvI : Mv [I] s1 { s1 with heap := h2, toks := tk2 } := ⟨h2, tk2, rfl, hk2, htk⟩
    have ls2 : LS cl cenv Z X K vs l1 { s1 with heap := h2, toks := tk2 } := ⟨ls1.acc.at fun o e => hk2 _ o hZI e, ls1.are, let ⟨m, hm, hk⟩ := ls1.ns; ⟨m, hm.at' fun o e => hk2 _ o hCI e, hk⟩, fun hcl => by
      obtain ⟨u, oc, hoc, hd⟩ := ls1.cel hcl
      rcases cf.tgt with ⟨h, _⟩ | ⟨_, _, _, hXI⟩
      · rw [h] at hcl; cases hcl
      · exact ⟨u, oc, hk2 _ _ (by simpa using hXI) hoc, hd⟩⟩
    have b2 : B { s1 with heap := h2, toks := tk2 } := hB _ _ b1 (mvI.mono (by simp))
    generalize hs2 : ({ s1 with heap := h2, toks := tk2 } : Shared) = s2 at ls2 b2 mvI
    have st2 : St (i + 1) s2.heap := by rw [← hs2]; exact st2
    show wpX _ _ (assign (.Name t tp) cenv v) _ s2
    have hlen : (l1 ++ a).length ≤ 100000 := by
      have := congrArg List.length hl
      simp only [List.length_append] at this hsz ⊢
      lia
    -- after the store
    have fin : ∀ s3, Mv [cenv.locals, X] s2 s3 → LS cl cenv Z X K vs l1 s3 → Ld cenv s3.heap t v → (cl = false → ∃ m, s3.heap.Ns cenv.locals m ∧ K m ∧ m t = some v) → St (i + 1) s3.heap →
        wpX (model prog w) A body (fun _ s₃ => ∃ m, m < l.length - i ∧ ∃ i r2 vs l1, m = l.length - i ∧ i ≤ l.length ∧ collect f (l.drop i) = some r2 ∧ l1 ++ r2 = l0 ++ r ∧ LS cl cenv Z X K vs l1 s₃ ∧ St i s₃.heap ∧ B s₃ ∧ Mv [Z, cenv.locals, I, X] s s₃) s3 := by
      intro s3 mv3 ls3 ld3 hm3 st3
      have b3 : B s3 := hB _ _ b2 (mv3.mono (by simp))
      refine wpX_mono (hbody c v vs l1 a s3 hcv hf b3 ld3 ls3 hlen hm3) ?_
      rintro _ s4 ⟨mv4, ws, ls4⟩
      refine ⟨l.length - (i + 1), by lia, i + 1, r3, ws, l1 ++ a, rfl, hlt, hc3, by rw [List.append_assoc]; exact hl, ls4, W.frame _ _ _ st3 fun b hb o e => mv4.get ?_ e, hB _ _ b3 (mv4.mono (by simp)), ?_⟩
      · intro hm
        rcases List.mem_cons.mp hm with rfl | hm
        · exact cf.fd hb
        · rcases List.mem_cons.mp hm with rfl | hm
          · exact cf.fc hb
          · cases hm
      · exact mv1.trans ((mvI.mono (by simp)).trans ((mv3.mono (by simp)).trans (mv4.mono (by simp))))
    refine .of (wpAny_assign_Name ?_)
    obtain ⟨m, hm, hKm⟩ := ls2.ns
    rcases cf.tgt with ⟨rfl, hk⟩ | ⟨rfl, hk, hX, hXI⟩
    · refine wpAny_storeName_local hk hm (fun h3 hn3 hs3 => fin _ (Mv.of_same hs3 (by simp) (Nat.le_succ _)) ⟨ls2.acc.extBut hs3.extBut cf.dc, ls2.are, ⟨_, hn3, hK m v hKm⟩, fun e => nomatch e⟩ (.inl ⟨hk, _, hn3, by simp⟩) (fun _ => ⟨_, hn3, hK m v hKm, by simp⟩) (W.frame _ _ _ st2 fun b hb o e => hs3.extBut b o (fun e' => cf.fc (e' ▸ hb)) e)) (by rw [cf.kind]; rfl)
    · obtain ⟨u, hu⟩ := ls2.cel rfl
      exact wpAny_storeName_cell cf.kind hk hX hu fun h3 hc3 hs3 => fin _ (Mv.of_same hs3 (by simp) (Nat.le_refl _)) ⟨ls2.acc.extBut hs3.extBut (Ne.symm cf.xd), ls2.are, ⟨m, hm.sameBut hs3 (Ne.symm cf.xc), hKm⟩, fun _ => ⟨_, hc3⟩⟩ (.inr ⟨.inl hk, X, hX, hc3⟩) (fun e => nomatch e)
        (W.frame _ _ _ st2 fun b hb o e => hs3.extBut b o (fun e' => cf.fx rfl (e' ▸ hb)) e)
  · have e : i = l.length := by lia
    subst e
    have : r2 = [] := by simpa [collect, eq_comm] using hc
    subst this
    rw [List.append_nil] at hl
    subst hl
    have hZI : Z ∉ [I] := by simpa using cf.di
    have hCI : cenv.locals ∉ [I] := by simpa using cf.ci
    refine wpX_mono (wpX_toks (.of (W.done s1 (fun o s' => ∃ h2 tk2, o = none ∧ s' = { s1 with heap := h2, toks := tk2 } ∧ (∀ b o, b ∉ [I] → s1.heap.get? b = some o → h2.get? b = some o)) _ st1 fun h2 tk2 hk2 => ⟨h2, tk2, rfl, rfl, hk2⟩))) ?_
    rintro o s2 ⟨htk, h2, tk2, rfl, rfl, hk2⟩
    have mvI : Mv [I] s1 { s1 with heap := h2, toks := tk2 } := ⟨h2, tk2, rfl, hk2, htk⟩
    refine hR _ vs (mv1.trans (mvI.mono (by simp))) ⟨ls1.acc.at fun o e => hk2 _ o hZI e, ls1.are, let ⟨m, hm, hk⟩ := ls1.ns; ⟨m, hm.at' fun o e => hk2 _ o hCI e, hk⟩, fun hcl => ?_⟩
    obtain ⟨u, oc, hoc, hd⟩ := ls1.cel hcl
    rcases cf.tgt with ⟨h, _⟩ | ⟨_, _, _, hXI⟩
    · rw [h] at hcl; cases hcl
    · exact ⟨u, oc, hk2 _ _ (by simpa using hXI) hoc, hd⟩
end
end Mine

end
section
open PySem PySem.W PyProof.Rows
set_option Elab.async false
set_option maxRecDepth 100000
namespace Mine

noncomputable def rl (env : Env) (x : Str) (k : NameKind) : NameKind := if (k == .free && env.scope.kind == .function && env.kindOf x == some .cell) then .cell else k
theorem lookup_rl {env : Env} : ∀ (names : List (Str × NameKind)) (x : Str),
    (names.map fun (n, k) => if (k == NameKind.free && env.scope.kind == .function && env.kindOf n == some .cell) then (n, NameKind.cell) else (n, k)).lookup x = (names.lookup x).map (rl env x)
  | [], x => rfl
  | (n, k) :: r, x => by
    have ih := lookup_rl (env := env) r x
    simp only [List.map_cons]
    show List.lookup x ((if (k == NameKind.free && env.scope.kind == .function && env.kindOf n == some .cell) = true then (n, NameKind.cell) else (n, k)) :: _) = _
    cases hx : x == n with
    | true =>
      have e := beq_iff_eq.mp hx
      subst e
      simp only [List.lookup_cons, hx, Option.map_some, rl]
      split <;> simp
    | false =>
      by_cases hc : (k == NameKind.free && env.scope.kind == .function && env.kindOf n == some .cell) = true
      · rw [if_pos hc]; simp only [List.lookup_cons, hx]; exact ih
      · rw [if_neg hc]; simp only [List.lookup_cons, hx]; exact ih
structure CE (sc : Scope) (env cenv : Env) : Prop where
  scope : cenv.scope = relabel sc env
  globals : cenv.globals = env.globals
  builtins : cenv.builtins = env.builtins
  free : ∀ y, (y, NameKind.free) ∈ sc.names → ∃ c, env.cells.lookup y = some c ∧ cenv.cells.lookup y = some c
  cell : ∀ y, (y, NameKind.cell) ∈ sc.names → ∃ c, cenv.cells.lookup y = some c
theorem CE.kindOf {sc : Scope} {env cenv : Env} (h : CE sc env cenv) (y : Str) : cenv.kindOf y = (sc.names.lookup y).map (rl env y) := by
  show cenv.scope.names.lookup y = _
  rw [h.scope]
  exact lookup_rl _ _

structure ScOk (sc : Scope) (ts : List Str) : Prop where
  kind : sc.kind = .function
  uniq : ∀ y k, (y, k) ∈ sc.names → sc.names.lookup y = some k
  cell : ∀ y, (y, NameKind.cell) ∈ sc.names → y ∈ ts
  free : ∀ y, (y, NameKind.free) ∈ sc.names → y ∉ ts ∧ (y == ("__classdict__" : Str)) = false
  nodebug : ∀ y ∈ ts, (y == ("__debug__" : Str)) = false
theorem scOk_of {sc : Scope} {ts : List Str} (h : scopeOk sc ts = true) : ScOk sc ts := by
  unfold scopeOk at h
  simp only [Bool.and_eq_true, beq_iff_eq, List.all_eq_true, Bool.not_eq_true'] at h
  obtain ⟨⟨h1, h2⟩, h3⟩ := h
  refine ⟨h1, fun y k hm => (h2 _ hm).1, fun y hm => ?_, fun y hm => ?_, h3⟩
  · have := (h2 _ hm).2; simpa using this
  · have := (h2 _ hm).2; simpa using this
theorem mem_frees {sc : Scope} {y : Str} : y ∈ frees sc ↔ (y, NameKind.free) ∈ sc.names := by
  unfold frees
  constructor
  · intro h
    obtain ⟨⟨a, k⟩, hm, rfl⟩ := List.mem_map.mp h
    obtain ⟨hm, hk⟩ := List.mem_filter.mp hm
    have : k = .free := by simpa using hk
    exact this ▸ hm
  · intro h
    exact List.mem_map.mpr ⟨(y, .free), List.mem_filter.mpr ⟨h, by simp⟩, rfl⟩
theorem idxAll_at {ns : List Str} : ∀ {l : List Str} {fvs : List Nat} {j : Nat} {y : Str}, idxAll ns l = some fvs → l[j]? = some y → ∃ i, fvs[j]? = some i ∧ idxOf ns y = some i
  | [], _, j, y, _, h => by simp at h
  | x :: r, fvs, j, y, h, hj => by
    simp only [idxAll] at h
    obtain ⟨i, hi, h⟩ := bindSome h
    obtain ⟨fv, hf, rfl⟩ := Option.map_eq_some_iff.mp h
    cases j with
    | zero => simp at hj; subst hj; exact ⟨i, rfl, hi⟩
    | succ j => simp at hj; simpa using idxAll_at hf hj
theorem idxAll_len {ns : List Str} : ∀ {l : List Str} {fvs : List Nat}, idxAll ns l = some fvs → fvs.length = l.length
  | [], fvs, h => by simp only [idxAll, Option.some.injEq] at h; subst h; rfl
  | x :: r, fvs, h => by
    simp only [idxAll] at h
    obtain ⟨i, hi, h⟩ := bindSome h
    obtain ⟨fv, hf, rfl⟩ := Option.map_eq_some_iff.mp h
    simp [idxAll_len hf]

section
variable {g : Ad} {ns : List Str} {gs : Gs} {env cenv : Env} {own own' : Option Addr} {s₁ s : Shared} {ρ : List D}
theorem Rp.fresh {h : Heap} {v : Value} {d : D} {Z : Addr} (r : Rp own h v d) (hz : h.get? Z = none) : Rp (some Z) h v d := by
  cases r with
  | sc e => exact .sc e
  | list p a n => exact .list p a (by rintro ⟨⟩; obtain ⟨_, e⟩ := p; rw [hz] at e; cases e)
  | tup p a n => exact .tup p a (by rintro ⟨⟩; obtain ⟨_, e, _⟩ := p; rw [hz] at e; cases e)
  | rng p n => exact .rng p (by rintro ⟨⟩; unfold IsRange at p; rw [hz] at p; cases p)
  | fba p n => exact .fba p (by rintro ⟨⟩; rw [hz] at p; cases p)
theorem vw_comp {sc : Scope} {ts : List Str} {ds : List D} {fvs : List Nat} (hv : Vw g ns gs env own s₁ ρ) (k : Keeps s₁ s) (ht : s₁.toks ≤ s.toks) (so : ScOk sc ts) (hfk : frOk gs sc = true) (hidx : idxAll ns (frees sc) = some fvs)
    (ce : CE sc env cenv) (hlen : ts.length = ds.length) (htv : ∀ (i : Nat) x d d', ts[i]? = some x → ds[i]? = some d → readable d = some d' → ∃ v, Ld cenv s.heap x v ∧ Rp own' s.heap v d')
    (hown : ∀ v d, Rp own s₁.heap v d → Rp own' s₁.heap v d) (hal : Own own' s.heap) :
    Vw g (ts ++ frees sc) sc.names cenv own' s (ds ++ fvs.map fun i => (ρ[i]?).getD .undef) := by
  have hv' := hv.next k ht
  refine ⟨by rw [ce.scope]; exact so.kind, fun y k h => ?_, fun y h => ?_, ce.globals.trans hv.globals, ce.builtins.trans hv.builtins, hv'.ok, hv'.toks, hal, fun i y d d' h1 h2 h3 => ?_, fun y hy => ?_⟩
  · rw [ce.kindOf, h]
    simp only [Option.map_some, rl, Option.some.injEq]
    split
    · rename_i hc
      simp only [Bool.and_eq_true, beq_iff_eq] at hc
      exact .inr ⟨hc.1.1, rfl⟩
    · exact .inl rfl
  · rw [ce.kindOf] at h
    cases hl : sc.names.lookup y with
    | none => rw [hl] at h; simp at h
    | some k =>
      have hm := mem_of_lookup hl
      by_cases hf : k = .free
      · subst hf
        obtain ⟨c, _, hc⟩ := ce.free y hm
        exact ⟨c, hc⟩
      · rw [hl] at h
        have hk : k = .cell := by
          have e : rl env y k = k := by unfold rl; rw [if_neg]; simp [hf]
          simp only [Option.map_some, e, Option.some.injEq] at h
          rcases h with h | h
          · exact h
          · exact absurd h hf
        subst hk
        exact ce.cell y hm
  · by_cases hi : i < ts.length
    · rw [List.getElem?_append_left hi] at h1
      rw [List.getElem?_append_left (hlen ▸ hi)] at h2
      exact htv i y d d' h1 h2 h3
    · rw [List.getElem?_append_right (by lia)] at h1
      rw [List.getElem?_append_right (by lia), ← hlen] at h2
      obtain ⟨j, hj, hij⟩ := idxAll_at hidx h1
      rw [List.getElem?_map, hj] at h2
      simp only [Option.map_some, Option.some.injEq] at h2
      have hd : ρ[j]? = some d := by
        cases hρ : ρ[j]? with
        | none => rw [hρ] at h2; subst h2; cases h3
        | some d2 => rw [hρ] at h2; exact congrArg some h2
      obtain ⟨v, hl, hr⟩ := hv.vars j y d d' (idxOf_at hij) hd h3
      refine ⟨v, ?_, (hown v d' hr).ext (keeps_ext k)⟩
      have hl := hl.ext (keeps_ext k)
      have hmem := mem_frees.mp (List.mem_of_getElem? h1)
      have hg : gs.lookup y = some .cell ∨ gs.lookup y = some .free := by
        have := List.all_eq_true.mp hfk y (List.mem_of_getElem? h1)
        simpa using this
      have hek : env.kindOf y = some .cell ∨ env.kindOf y = some .free := by
        rcases hg with h | h
        · rcases hv.kinds y _ h with h' | ⟨h', _⟩
          · exact .inl h'
          · cases h'
        · rcases hv.kinds y _ h with h' | ⟨_, h'⟩
          · exact .inr h'
          · exact .inl h'
      obtain ⟨c, hc1, hc2⟩ := ce.free y hmem
      rcases hl with ⟨hkl, _⟩ | ⟨_, c', hc', hcell⟩
      · rw [hkl] at hek; rcases hek with h | h <;> cases h
      · rw [hc1] at hc'; cases hc'
        refine .inr ⟨?_, c, hc2, hcell⟩
        rw [ce.kindOf, so.uniq y _ hmem]
        simp only [Option.map_some, rl, Option.some.injEq]
        split
        · exact .inl rfl
        · exact .inr ⟨rfl, (so.free y hmem).2⟩
  · rcases List.mem_append.mp hy with hy | hy
    · exact so.nodebug y hy
    · obtain ⟨j, hj⟩ := List.mem_iff_getElem?.mp hy
      obtain ⟨i, _, hi⟩ := idxAll_at hidx hj
      exact hv.nodebug y (List.mem_of_getElem? (idxOf_at hi))
end

theorem closure_go {env : Env} (f : Str × NameKind → List (Str × Addr) → Sem (ForInStep (List (Str × Addr))))
    (hf : ∀ n k cs, f (n, k) cs = if k == .free then (do let c ← cellOf env n; pure (.yield ((n, c) :: cs))) else pure (.yield cs)) :
    ∀ (names : List (Str × NameKind)) (cs : List (Str × Addr)), (∀ y, (y, NameKind.free) ∈ names → ∃ c, env.cells.lookup y = some c) → (∀ y c, cs.lookup y = some c → env.cells.lookup y = some c) →
      ∃ cl, forIn names cs f = pure cl ∧ (∀ y c, cl.lookup y = some c → env.cells.lookup y = some c) ∧ (∀ y, ((y, NameKind.free) ∈ names ∨ (cs.lookup y).isSome = true) → (cl.lookup y).isSome = true)
  | [], cs, _, hc => ⟨cs, rfl, hc, fun y h => by simpa using h⟩
  | (n, k) :: r, cs, h, hc => by
    rw [List.forIn_cons, hf]
    by_cases hk : k = .free
    · subst hk
      obtain ⟨c, hcn⟩ := h n (List.mem_cons_self ..)
      have e : cellOf env n = pure c := by unfold cellOf; rw [hcn]
      obtain ⟨cl, h1, h2, h3⟩ := closure_go f hf r ((n, c) :: cs) (fun y hy => h y (List.mem_cons_of_mem _ hy)) (fun y d hd => by
        rw [List.lookup_cons] at hd
        cases hb : y == n with
        | true => rw [hb] at hd; cases hd; rw [beq_iff_eq.mp hb]; exact hcn
        | false => rw [hb] at hd; exact hc y d hd)
      refine ⟨cl, ?_, h2, fun y hy => h3 y ?_⟩
      · simp only [beq_self_eq_true, if_true, e]; exact h1
      · rcases hy with hy | hy
        · rcases List.mem_cons.mp hy with hy | hy
          · cases hy; right; simp
          · exact .inl hy
        · right
          rw [List.lookup_cons]
          cases y == n
          · exact hy
          · rfl
    · have hb : (k == NameKind.free) = false := by simpa using hk
      obtain ⟨cl, h1, h2, h3⟩ := closure_go f hf r cs (fun y hy => h y (List.mem_cons_of_mem _ hy)) hc
      refine ⟨cl, ?_, h2, fun y hy => h3 y ?_⟩
      · simp only [hb, Bool.false_eq_true, if_false]; exact h1
      · rcases hy with hy | hy
        · rcases List.mem_cons.mp hy with hy | hy
          · cases hy; exact absurd rfl hk
          · exact .inl hy
        · exact .inr hy
theorem closure_ok {sc : Scope} {env : Env} (h : ∀ y, (y, NameKind.free) ∈ sc.names → ∃ c, env.cells.lookup y = some c) :
    ∃ cl, closureFor sc env = pure cl ∧ ∀ y, (y, NameKind.free) ∈ sc.names → ∃ c, env.cells.lookup y = some c ∧ cl.lookup y = some c := by
  suffices H : ∀ f : Str × NameKind → List (Str × Addr) → Sem (ForInStep (List (Str × Addr))), (∀ n k cs, f (n, k) cs = if k == .free then (do let c ← cellOf env n; pure (.yield ((n, c) :: cs))) else pure (.yield cs)) →
      ∃ cl, (forIn sc.names [] f >>= fun cs => pure cs) = pure cl ∧ ∀ y, (y, NameKind.free) ∈ sc.names → ∃ c, env.cells.lookup y = some c ∧ cl.lookup y = some c from
    H _ (fun n k cs => by cases k <;> rfl)
  intro f hf
  obtain ⟨cl, h1, h2, h3⟩ := closure_go (env := env) f hf sc.names [] h (fun y c hc => by simp at hc)
  refine ⟨cl, by rw [h1]; rfl, fun y hy => ?_⟩
  obtain ⟨c, hc⟩ := Option.isSome_iff_exists.mp (h3 y (.inl hy))
  exact ⟨c, h2 y c hc, hc⟩

theorem cf_split : ∀ (names : List (Str × NameKind)) (n : Nat) (acc : List (Str × Addr)), cellsFrom n names acc = cellsFrom n names [] ++ acc
  | [], n, acc => rfl
  | (x, k) :: r, n, acc => by
    unfold cellsFrom
    split
    · rw [cf_split r (n + 1) ((x, n) :: acc), cf_split r (n + 1) [(x, n)]]; simp
    · exact cf_split r n acc
theorem cf_keys : ∀ {names : List (Str × NameKind)} {n : Nat} {acc : List (Str × Addr)} {y : Str} {c : Addr}, (y, c) ∈ cellsFrom n names acc → (y, c) ∈ acc ∨ (y, NameKind.cell) ∈ names
  | [], n, acc, y, c, h => .inl h
  | (x, k) :: r, n, acc, y, c, h => by
    unfold cellsFrom at h
    split at h
    · rename_i hk
      rcases cf_keys h with h | h
      · rcases List.mem_cons.mp h with h | h
        · cases h; right; rw [beq_iff_eq.mp hk]; exact List.mem_cons_self ..
        · exact .inl h
      · exact .inr (List.mem_cons_of_mem _ h)
    · rcases cf_keys h with h | h
      · exact .inl h
      · exact .inr (List.mem_cons_of_mem _ h)
theorem cf_has : ∀ {names : List (Str × NameKind)} {n : Nat} {acc : List (Str × Addr)} {y : Str}, ((y, NameKind.cell) ∈ names ∨ (acc.lookup y).isSome = true) → ((cellsFrom n names acc).lookup y).isSome = true
  | [], n, acc, y, h => by simpa [cellsFrom] using h
  | (x, k) :: r, n, acc, y, h => by
    unfold cellsFrom
    split
    · refine cf_has ?_
      rcases h with h | h
      · rcases List.mem_cons.mp h with h | h
        · cases h; right; simp
        · exact .inl h
      · right
        rw [List.lookup_cons]
        cases y == x
        · exact h
        · rfl
    · rename_i hk
      refine cf_has ?_
      rcases h with h | h
      · rcases List.mem_cons.mp h with h | h
        · cases h; exact absurd (by decide) hk
        · exact .inl h
      · exact .inr h
theorem lookup_none_of {α : Type} {l : List (Str × α)} {y : Str} (h : ∀ c, (y, c) ∉ l) : l.lookup y = none := by
  cases e : l.lookup y with
  | none => rfl
  | some c => exact absurd (mem_of_lookup e) (h c)
section
variable {M : Model} {A : Around} {E : Value → Shared → Prop} {s : Shared} {env : Env}
theorem newCompEnv {scope : Scope} {globals : Addr} {cl : List (Str × Addr)} {qual : Str} {Q : Env → Shared → Prop}
    (hQ : Q { scope := scope, locals := s.heap.objs.size, globals, cells := cellsFrom (s.heap.objs.size + 1) scope.names cl, qual, func := none, code := env.code, frame := env.frame, builtins := env.builtins }
      { s with heap := pushCells (s.heap.push { cls := .type "dict", data := .dict #[] }) scope.names }) : wpAny M A (newFunctionEnv scope globals cl [] qual none .none (some env)) Q E s := by
  simp only [newFunctionEnv, Option.isSome_some, if_true]
  refine wpAny_bind (wpAny_alloc ?_)
  refine wpAny_bind (wpAny_layCells _ (fun name kind cells => by cases hkc : kind == NameKind.cell <;> simp [hkc]) _ _ _ _ ?_)
  rw [show ({ s with heap := s.heap.push { cls := .type "dict", data := .dict #[] } } : Shared).heap.objs.size = s.heap.objs.size + 1 from Heap.size_push ..]
  exact wpAny_bind (wpAny_pure (wpAny_pure hQ))
end
end Mine

end
section
open PySem PySem.W PyProof.Rows
set_option Elab.async false
set_option maxRecDepth 100000
namespace Mine

theorem wpX_standIf {α : Type} {M : Model} {A : Around} {s : Shared} {c : Prop} [Decidable c] {pos : Pos} {k : PUnit → Sem α} {Q : α → Shared → Prop} (h : wpX M A (k ()) Q s) :
    wpX M A (if c then (standAt pos >>= k) else k ()) Q s := by
  split
  · exact wpX_stand h
  · exact h

/-- what is left to show after the loop: the value is taken, or it is stored by u before the variables go -/
noncomputable def Post (M : Model) (A : Around) (own : Option Addr) (use : Option (Value → Sem Unit)) (Q : Value → Shared → Prop) (s : Shared) (r : List Sc) : Prop :=
  match use with
  | none => ∀ v s', Ps own s (.list r) v s' → Q v s'
  | some u => ∀ v s' C, Ps own s (.list r) v s' → s.toks ≤ s'.toks → s.heap.get? C = none → (∃ m, s'.heap.Ns C m) → v ≠ .ref C →
      wpX M A (u v) (fun _ s'' => (∃ m, s''.heap.Ns C m) ∧ ∀ h', Heap.SameBut C s''.heap h' → Q .none { s'' with heap := h' }) s'

theorem listNe {h : Heap} {a b : Addr} {vs : List Value} {m : Str → Option Value} (hp : h.PlainList a vs.toArray) (hn : h.Ns b m) : a ≠ b := by
  rintro rfl
  obtain ⟨n, ho⟩ := hp
  obtain ⟨o, es, ep, ho', hd, _⟩ := hn
  rw [ho] at ho'
  cases ho'
  cases hd

abbrev ccOf (scope : Scope) (env : Env) (ccl : List (Str × Addr)) (n : Nat) : Env := { scope := relabel scope env, locals := n + 1 + 1, globals := env.globals, cells := cellsFrom (n + 1 + 1 + 1) scope.names ccl, qual := env.qual, func := none, code := env.code, frame := env.frame, builtins := env.builtins }
theorem none_of {h h' : Heap} {a : Addr} (x : Ext h h') (e : h'.get? a = none) : h.get? a = none := by
  cases e' : h.get? a with
  | none => rfl
  | some o => rw [x _ _ e'] at e; cases e
theorem ad_ne {a b : Nat} (h : a < b ∨ b < a) : @Ne Addr a b := fun e => by have e : (a : Nat) = b := e; lia
theorem ad_eq {a b : Addr} (h : a = b) : @Eq Nat a b := h
section
variable {prog : Program} {w : World} {g : Ad} {n : Nat} {ns : List Str} {gs : Gs} {env : Env} {own : Option Addr} {s : Shared} {ρ : List D} {A : Around}
theorem comp_core {elt : Expr} {gens : List Comprehension} {gn : Comprehension} {gns : List Comprehension} {scope : Scope} {pos p0 : Pos} {first : Sem Value} {use : Option (Value → Sem Unit)} {Q : Value → Shared → Prop} {ts : List Str} {t : Str} {cl : Bool}
    {x : D} {l : List D} {r : List Sc} (hh : A.handled = none)
    (hg : gens = gn :: gns) (hia : gn.is_async = 0) (hs : ∀ x, foldedSetIterable gn.iter env x = pure x) (hv : Vw g ns gs env own s ρ) (so : ScOk scope ts) (hfk : frOk gs scope = true) (ht : cellOk scope t = some cl)
    (h1 : ∀ Q : Value → Shared → Prop, (∀ v s₁, Rp own s₁.heap v x → Keeps s s₁ → Vw g ns gs env own s₁ ρ → Q v s₁) → wpX (model prog w) A first Q s) (hx : items x = some l)
    (loop : ∀ cenv Z I X fp St s₁ s₂, CE scope env cenv → CF t cl cenv Z I X fp → (∀ A' : Around, A'.handled = none → Walks prog w A' I fp [I] l.length (PofL l) St) → St 0 s₂.heap → LS cl cenv Z X (fun _ => True) [] [] s₂ → Vw g ns gs env own s₁ ρ →
      Keeps s₁ s₂ → s₁.toks ≤ s₂.toks → (∀ a ∈ [Z, cenv.locals, I, X], s₁.heap.get? a = none) → ∀ R : Result → Shared → Prop, (∀ s' vs, Mv [Z, cenv.locals, I, X] s₂ s' → LS cl cenv Z X (fun _ => True) vs r s' → R (.ok .next) s') →
      codeX (model prog w) A (.compLoop (.ListComp elt gens scope pos) 0 (.ref I) (.ref Z) cenv) R s₂)
    (post : Post (model prog w) A own use Q s r) : wpX (model prog w) A (comprehension (.ListComp elt gens scope pos) scope env p0 (newList []) false first use) Q s := by
  have hfree : ∀ y, (y, NameKind.free) ∈ scope.names → ∃ c, env.cells.lookup y = some c := fun y hy => by
    have := List.all_eq_true.mp hfk y (mem_frees.mpr hy)
    refine hv.cells y ?_
    have hg : gs.lookup y = some .cell ∨ gs.lookup y = some .free := by simpa using this
    rcases hg with h | h
    · rcases hv.kinds y _ h with h' | ⟨h', _⟩
      · exact .inl h'
      · cases h'
    · rcases hv.kinds y _ h with h' | ⟨_, h'⟩
      · exact .inr h'
      · exact .inl h'
  obtain ⟨ccl, hclos, hccl⟩ := closure_ok hfree
  have hcl : clausesOf (.ListComp elt gens scope pos) = gn :: gns := hg
  unfold comprehension
  rw [hclos, hcl]
  refine wpX_bind (wpX_mono (wpX_toks (h1 (fun v s₁ => Rp own s₁.heap v x ∧ Keeps s s₁ ∧ Vw g ns gs env own s₁ ρ) fun v s₁ r1 k1 v1 => ⟨r1, k1, v1⟩)) ?_)
  rintro v s₁ ⟨tk1, r1, k1, v1⟩
  refine wpX_stand (wpX_eq (hs v) (wpX_bind (wpX_holding (.of (iter_sound hx r1 fun o fp St W st0 hfp _ => ?_)))))
  have body : ∀ cc : Env, cc = { scope := scope, locals := s₁.heap.objs.size + 1 + 1, globals := env.globals, cells := cellsFrom (s₁.heap.objs.size + 1 + 1 + 1) scope.names ccl, qual := env.qual, func := none, code := env.code, frame := env.frame, builtins := env.builtins } →
      ∀ s₂ : Shared, s₂ = { s₁ with heap := pushCells (((s₁.heap.push o).push { cls := .type "list", data := .seq ([] : List Value).toArray }).push { cls := .type "dict", data := .dict #[] }) scope.names } →
      ∀ R : Result → Shared → Prop, (∀ s', Ps own s₁ (.list r) (.ref (s₁.heap.objs.size + 1)) s' → s₁.toks ≤ s'.toks → (∃ m, s'.heap.Ns (s₁.heap.objs.size + 1 + 1) m) → R (.ok .next) s') →
      codeX (model prog w) A (.compStart (.ListComp elt gens scope pos) 0 (.ref s₁.heap.objs.size) (.ref (s₁.heap.objs.size + 1)) { cc with scope := relabel scope env }) R s₂ := by
    rintro cc rfl s₂ rfl R hR
    generalize hH : ((s₁.heap.push o).push { cls := .type "list", data := .seq ([] : List Value).toArray }).push { cls := .type "dict", data := .dict #[] } = H
    have hsz : H.objs.size = s₁.heap.objs.size + 1 + 1 + 1 := by rw [← hH, Heap.size_push, Heap.size_push, Heap.size_push]
    have x1 : Ext (s₁.heap.push o) H := fun b ob e => hH ▸ Heap.get?_push_of_some _ (Heap.get?_push_of_some _ e)
    have x2 : Ext H (pushCells H scope.names) := pushCells_keeps _ _
    have x0 : Ext s₁.heap (pushCells H scope.names) := fun b ob e => x2 _ _ (x1 _ _ (Heap.get?_push_of_some _ e))
    have pl : (pushCells H scope.names).PlainList (s₁.heap.objs.size + 1) ([] : List Value).toArray := ⟨_, x2 _ _ (hH ▸ Heap.get?_push_of_some _ (by
      have := Heap.get?_push_size (h := s₁.heap.push o) (o := { cls := .type "list", data := .seq ([] : List Value).toArray }) rfl
      rwa [Heap.size_push] at this))⟩
    have nsC : (pushCells H scope.names).Ns (s₁.heap.objs.size + 1 + 1) (fun _ => none) := by
      have e := Heap.Ns.new ((s₁.heap.push o).push { cls := .type "list", data := .seq ([] : List Value).toArray }) (.type "dict")
      rw [hH, Heap.size_push, Heap.size_push] at e
      exact e.keeps fun b ob e => x2 _ _ e
    have ok := cellsFrom_ok scope.names H (s₁.heap.objs.size + 1 + 1 + 1) [] ⟨fun _ _ hm => (nomatch hm), List.Pairwise.nil⟩ (by rw [hsz]; exact Nat.le_refl _)
    rw [hsz] at ok
    have ce : CE scope env { scope := relabel scope env, locals := s₁.heap.objs.size + 1 + 1, globals := env.globals, cells := cellsFrom (s₁.heap.objs.size + 1 + 1 + 1) scope.names ccl, qual := env.qual, func := none, code := env.code, frame := env.frame, builtins := env.builtins } := by
      refine ⟨rfl, rfl, rfl, fun y hy => ?_, fun y hy => ?_⟩
      · obtain ⟨c, hc1, hc2⟩ := hccl y hy
        refine ⟨c, hc1, ?_⟩
        show (cellsFrom _ scope.names ccl).lookup y = _
        rw [cf_split, List.lookup_append, lookup_none_of (fun c' hc' => ?_)]
        · exact hc2
        · rcases cf_keys hc' with h | h
          · cases h
          · have a := so.uniq y _ hy
            have b := so.uniq y _ h
            rw [a] at b; cases b
      · exact Option.isSome_iff_exists.mp (cf_has (.inl hy))
    have hX : ∃ X : Nat, (cl = true → (cellsFrom (s₁.heap.objs.size + 1 + 1 + 1) scope.names ccl).lookup t = some X ∧ s₁.heap.objs.size + 1 + 1 + 1 ≤ X ∧ (pushCells H scope.names).IsCell X none) ∧ (cl = false → @Eq Nat X s₁.heap.objs.size) := by
      cases cl with
      | false => exact ⟨_, (fun e => nomatch e), fun _ => rfl⟩
      | true =>
        have htc : (t, NameKind.cell) ∈ scope.names := by
          unfold cellOk at ht
          split at ht
          · cases ht
          · rename_i e; exact mem_of_lookup e
          · cases ht
        obtain ⟨X, hX⟩ := Option.isSome_iff_exists.mp (cf_has (names := scope.names) (n := s₁.heap.objs.size + 1 + 1 + 1) (acc := []) (.inl htc))
        have := ok.empty t X (mem_of_lookup hX)
        refine ⟨X, fun _ => ⟨?_, this.2, this.1⟩, fun e => nomatch e⟩
        rw [cf_split, List.lookup_append, hX]; rfl
    obtain ⟨X, hX1, hX2⟩ := hX
    have hXs : @Eq Nat s₁.heap.objs.size X ∨ s₁.heap.objs.size + 1 + 1 + 1 ≤ X := by
      cases cl with
      | false => exact .inl (hX2 rfl).symm
      | true => exact .inr (hX1 rfl).2.1
    have below : ∀ b ∈ fp, @Eq Nat b s₁.heap.objs.size ∨ @LT.lt Nat _ b s₁.heap.objs.size := fun b hb => by
      rcases hfp b hb with h | ⟨_, vs, hp⟩
      · exact .inl h
      · exact .inr (Heap.lt_size hp.choose_spec)
    have cf : CF t cl { scope := relabel scope env, locals := s₁.heap.objs.size + 1 + 1, globals := env.globals, cells := cellsFrom (s₁.heap.objs.size + 1 + 1 + 1) scope.names ccl, qual := env.qual, func := none, code := env.code, frame := env.frame, builtins := env.builtins }
        (s₁.heap.objs.size + 1) s₁.heap.objs.size X fp := by
      have q1 : @Ne Addr (s₁.heap.objs.size + 1) (s₁.heap.objs.size + 1 + 1) := ad_ne (by lia)
      have q2 : @Ne Addr (s₁.heap.objs.size + 1) s₁.heap.objs.size := ad_ne (by lia)
      have q3 : @Ne Addr (s₁.heap.objs.size + 1 + 1) s₁.heap.objs.size := ad_ne (by lia)
      have q4 : @Ne Addr X (s₁.heap.objs.size + 1) := ad_ne (by lia)
      have q5 : @Ne Addr X (s₁.heap.objs.size + 1 + 1) := ad_ne (by lia)
      refine ⟨so.kind, ?_, q1, q2, q3, q4, q5, fun hm => by have := below _ hm; lia, fun hm => ?_, fun hc hm => by have := below _ hm; have := (hX1 hc).2.1; lia⟩
      rotate_left
      · have : @Eq Nat (s₁.heap.objs.size + 1 + 1) s₁.heap.objs.size ∨ s₁.heap.objs.size + 1 + 1 < s₁.heap.objs.size := below _ hm
        lia
      cases cl with
      | false =>
        refine .inl ⟨rfl, ?_⟩
        rw [ce.kindOf]
        unfold cellOk at ht
        split at ht
        · rename_i e; rw [e]; rfl
        · cases ht
        · cases ht
      | true =>
        refine .inr ⟨rfl, ?_, (hX1 rfl).1, ad_ne (by have := (hX1 rfl).2.1; lia)⟩
        rw [ce.kindOf]
        unfold cellOk at ht
        split at ht
        · cases ht
        · rename_i e; rw [e]; rfl
        · cases ht
    have hT : ∀ a ∈ [s₁.heap.objs.size + 1, s₁.heap.objs.size + 1 + 1, s₁.heap.objs.size, X], s₁.heap.get? a = none := by
      intro a ha
      refine fresh_none ?_
      simp only [List.mem_cons, List.not_mem_nil, or_false] at ha
      rcases ha with h | h | h | h <;> have h := ad_eq h <;> lia
    have kk : Keeps s₁ { s₁ with heap := pushCells H scope.names } := ⟨_, s₁.toks, rfl, x0⟩
    have L := loop _ (s₁.heap.objs.size + 1) s₁.heap.objs.size X fp St s₁ { s₁ with heap := pushCells H scope.names } ce cf W (((W A hh).frame _ _ _ st0 fun b _ ob e => x2 _ _ (x1 _ _ e)))
      ⟨pl, .nil, ⟨_, nsC, trivial⟩, fun hc => ⟨_, (hX1 hc).2.2⟩⟩ v1 kk (Nat.le_refl _) hT R (fun s' vs mv ls => by
        refine hR s' ⟨.list ls.acc ls.are (fun e => ?_), ?_⟩ mv.toks (let ⟨m, hm, _⟩ := ls.ns; ⟨m, hm⟩)
        · have : @LT.lt Nat _ (s₁.heap.objs.size + 1) s₁.heap.objs.size := v1.ownd.lt _ e; lia
        · obtain ⟨h', tk, rfl, hk, _⟩ := mv
          exact ⟨h', tk, rfl, fun b ob e => hk b ob (fun hm => by rw [hT b hm] at e; cases e) (x0 b ob e)⟩)
    exact codeX_compStart (g := gn) (by rw [hg]; rfl) hia L (.of ((W A hh).self 0 _ _ _ ((W A hh).frame _ _ _ st0 fun b _ ob e => x2 _ _ (x1 _ _ e)) L))
  refine wpX_standIf (wpX_bind (.of (wpAny_newObj_type (hd := by size_fits) ?_)))
  refine wpX_bind (wpX_pure (wpX_bind (.of (newCompEnv ?_))))
  dsimp only
  have sz1 : ((s₁.heap.push o).push { cls := .type "list", data := .seq ([] : List Value).toArray }).objs.size = s₁.heap.objs.size + 1 + 1 := by rw [Heap.size_push, Heap.size_push]
  have sz2 : (s₁.heap.push o).objs.size = s₁.heap.objs.size + 1 := by rw [Heap.size_push]
  rw [sz1, sz2]
  have hv0 : ∀ x ∈ (scope.names.filter fun x => (x.2 == .local || x.2 == .cell) && x.1 != (".0" : Str)).reverse, x.2 = .local →
      Env.kindOf (ccOf scope env ccl s₁.heap.objs.size) x.1 = some .local := fun x hx hl => lookup_relabel_local (by
        have hm := (List.mem_filter.mp (List.mem_reverse.mp hx)).1
        obtain ⟨y, k⟩ := x
        exact hl ▸ so.uniq y k hm)
  have hv0' : ∀ x ∈ (scope.names.filter fun x => (x.2 == .local || x.2 == .cell) && x.1 != (".0" : Str)).reverse.drop 1 ++ (scope.names.filter fun x => (x.2 == .local || x.2 == .cell) && x.1 != (".0" : Str)).reverse.take 1,
      x.2 = .local → Env.kindOf (ccOf scope env ccl s₁.heap.objs.size) x.1 = some .local := fun x hx hl => by
    rcases List.mem_append.mp hx with h1 | h1
    · exact hv0 x (List.mem_of_mem_drop h1) hl
    · exact hv0 x (List.mem_of_mem_take h1) hl
  refine wpX_holding (wpX_bind (wpX_attempt (wpX_holding (wpX_run (body _ rfl _ rfl _ fun s' ps htk hns => ?_)))))
  obtain ⟨m, hm⟩ := hns
  have hne : (Value.ref (s₁.heap.objs.size + 1)) ≠ .ref (s₁.heap.objs.size + 1 + 1) := fun e => by
    have e : @Eq Nat (s₁.heap.objs.size + 1) (s₁.heap.objs.size + 1 + 1) := by injection e
    lia
  cases use with
  | none =>
    refine wpX_bind (wpX_holding (.of (wpAny_comp_letGo (cenv := ccOf scope env ccl s₁.heap.objs.size) so.kind _ s' m hv0 hm fun h' m' _ hs' => wpX_pure ?_)))
    refine post _ _ ⟨?_, ?_⟩
    · obtain ⟨h1, _⟩ := ps
      cases h1 with
      | list p a hn => exact .list (p.extBut hs'.extBut (show @Ne Addr (s₁.heap.objs.size + 1) (s₁.heap.objs.size + 1 + 1) from ad_ne (by lia))) a hn
    · refine keeps_trans k1 ?_
      obtain ⟨h', tk, rfl, hk⟩ := ps.2
      refine ⟨_, tk, rfl, fun b ob e => hs'.extBut b ob (fun hb => ?_) (hk b ob e)⟩
      have := Heap.lt_size e
      rw [hb] at this
      have this : @LT.lt Nat _ (s₁.heap.objs.size + 1 + 1) s₁.heap.objs.size := this
      lia
  | some u =>
    refine wpX_leaf (wpAny_rule ?_)
    refine wpX_bind (wpX_holding (wpX_mono (post _ s' (s₁.heap.objs.size + 1 + 1) (ps.trans k1) (Nat.le_trans tk1 htk) ?_ ⟨m, hm⟩ hne) ?_))
    · exact none_of (keeps_ext k1) (fresh_none (by show s₁.heap.objs.size ≤ s₁.heap.objs.size + 1 + 1; lia))
    · rintro _ s'' ⟨⟨m2, hm2⟩, hQ⟩
      exact wpX_bind (.of (wpAny_comp_letGo (cenv := ccOf scope env ccl s₁.heap.objs.size) so.kind _ s'' m2 hv0' hm2 fun h' m' _ hs' => wpX_pure (hQ h' hs')))
end
end Mine

end
section
open PySem PySem.W PyProof.Rows
set_option Elab.async false
set_option maxRecDepth 100000
namespace Mine
theorem LS.keeps {cl : Bool} {cenv : Env} {Z X : Addr} {K : (Str → Option Value) → Prop} {vs : List Value} {l : List Sc} {s s' : Shared} (ls : LS cl cenv Z X K vs l s) (k : Keeps s s') : LS cl cenv Z X K vs l s' :=
  ⟨ls.acc.at fun o e => keeps_ext k _ _ e, ls.are, let ⟨m, hm, hk⟩ := ls.ns; ⟨m, ns_ext hm (keeps_ext k), hk⟩, fun hc => let ⟨v, hv⟩ := ls.cel hc; ⟨v, hv.keeps (keeps_ext k)⟩⟩
theorem asSc_some {d : D} {c : Sc} (h : asSc d = some c) : d = .sc c := asSc_is h
theorem Rp.toSc {own : Option Addr} {h : Heap} {v : Value} {c : Sc} (r : Rp own h v (.sc c)) : toSc v = some c := by cases r with | sc e => exact e
theorem collect_len {f : D → Option (List Sc)} (hf : ∀ d a, f d = some a → a.length ≤ 1) : ∀ {l : List D} {r : List Sc}, collect f l = some r → r.length ≤ l.length
  | [], r, h => by simp only [collect, Option.some.injEq] at h; subst h; exact Nat.le_refl _
  | d :: l, r, h => by
    simp only [collect] at h
    obtain ⟨a, ha, h⟩ := bindSome h
    obtain ⟨r', hr, rfl⟩ := Option.map_eq_some_iff.mp h
    have := hf d a ha
    have := collect_len hf hr
    simp only [List.length_append, List.length_cons]
    lia

section
variable {prog : Program} {w : World} {g : Ad} {Φ : Fns} {L : Nat} {n : Nat} {ns : List Str} {gs : Gs} {env cenv : Env} {own : Option Addr} {s : Shared} {ρ : List D} {A : Around}
theorem folded_of {e : Expr} {d : D} {env : Env} (h : ev Φ (tr n ns gs e) ρ = some d) : ∀ x, foldedSetIterable e env x = pure x := by
  intro x
  cases e <;> first
    | rfl
    | (cases n <;> exact fail_no h)

variable {cl : Bool} {Z X I : Addr} {fp : List Addr} {K : (Str → Option Value) → Prop} {vs : List Value} {l1 : List Sc} {t : Str}
theorem emit_ok {elt : Expr} {c : Sc} (ih : EvOk prog w g Φ L n) (hA : AOk A (n + L)) (hv : Vw g ns gs cenv own s ρ) (he : ev Φ (tr n ns gs elt) ρ = some (.sc c)) (cf : CF t cl cenv Z I X fp) (ls : LS cl cenv Z X K vs l1 s) (hlen : (l1 ++ [c]).length ≤ 100000) :
    wpX (model prog w) A (emit1 elt (.ref Z) cenv) (fun _ s' => Mv [Z, cenv.locals] s s' ∧ ∃ ws, LS cl cenv Z X K ws (l1 ++ [c]) s') s := by
  unfold emit1
  refine wpX_bind (wpX_mono (wpX_toks (ih ns gs elt cenv own s ρ _ A hA hv he)) ?_)
  rintro u s1 ⟨htk, r, k⟩
  have ls1 := ls.keeps k
  refine wpX_bind (.of (wpAny_list_append_plain ls1.acc (fun h2 hl hs => wpX_pure ⟨?_, vs ++ [u], ?_⟩) ?_))
  · exact (Mv.of_keeps k htk).trans (Mv.of_same hs (by simp) (Nat.le_refl _))
  · refine ⟨by simpa using hl, ls1.are.append (.cons r.toSc .nil), ?_, fun hc => ?_⟩
    · obtain ⟨m, hm, hk⟩ := ls1.ns
      exact ⟨m, hm.sameBut hs (Ne.symm cf.dc), hk⟩
    · obtain ⟨u', hu⟩ := ls1.cel hc
      exact ⟨u', hu.sameBut hs cf.xd⟩
  · rw [sizeLine_eq, List.size_toArray, ls.are.length]
    simp at hlen
    lia
/-- the written tests and their translation -/
inductive Ifs (n : Nat) (ns : List Str) (gs : Gs) : List Expr → Option Mine.X → Prop
  | none : Ifs n ns gs [] none
  | some (cd : Expr) : Ifs n ns gs [cd] (some (trT n ns gs cd))
/-- what the written tests and element make of the variables -/
noncomputable def pickG (Φ : Fns) (co : Option Mine.X) (elt : Mine.X) (ρ : List D) : Option (List Sc) := match co with
  | none => (ev Φ elt ρ).bind fun y => (asSc y).map fun c => [c]
  | some cd => ((ev Φ cd ρ).bind truthy).bind fun t => if t then (ev Φ elt ρ).bind fun y => (asSc y).map fun c => [c] else some []
theorem pickG_len {co : Option Mine.X} {elt : Mine.X} {a : List Sc} (h : pickG Φ co elt ρ = some a) : a.length ≤ 1 := by
  unfold pickG at h
  have one : ∀ {a : List Sc}, ((ev Φ elt ρ).bind fun y => (asSc y).map fun c => [c]) = some a → a.length ≤ 1 := by
    intro a h
    obtain ⟨y, _, h⟩ := bindSome h
    obtain ⟨c, _, rfl⟩ := Option.map_eq_some_iff.mp h
    exact Nat.le_refl _
  split at h
  · exact one h
  · obtain ⟨b, _, h⟩ := bindSome h
    cases b
    · simp at h; subst h; exact Nat.zero_le _
    · exact one (by simpa using h)
theorem body_ok {ifs : List Expr} {co : Option Mine.X} {elt : Expr} {a : List Sc} (ih : EvOk prog w g Φ L n) (it : TtOk prog w g Φ L n) (hA : AOk A (n + L)) (hi : Ifs n ns gs ifs co) (hv : Vw g ns gs cenv own s ρ) (hp : pickG Φ co (tr n ns gs elt) ρ = some a)
    (cf : CF t cl cenv Z I X fp) (ls : LS cl cenv Z X K vs l1 s) (hlen : (l1 ++ a).length ≤ 100000) :
    wpX (model prog w) A (compBody ifs (emit1 elt (.ref Z) cenv) cenv) (fun _ s' => Mv [Z, cenv.locals] s s' ∧ ∃ ws, LS cl cenv Z X K ws (l1 ++ a) s') s := by
  unfold compBody
  unfold pickG at hp
  have one : ∀ {s : Shared} {a : List Sc}, Vw g ns gs cenv own s ρ → LS cl cenv Z X K vs l1 s → (l1 ++ a).length ≤ 100000 → ((ev Φ (tr n ns gs elt) ρ).bind fun y => (asSc y).map fun c => [c]) = some a →
      wpX (model prog w) A (emit1 elt (.ref Z) cenv) (fun _ s' => Mv [Z, cenv.locals] s s' ∧ ∃ ws, LS cl cenv Z X K ws (l1 ++ a) s') s := by
    intro s a hv ls hlen h
    obtain ⟨y, hy, h⟩ := bindSome h
    obtain ⟨c, hc, rfl⟩ := Option.map_eq_some_iff.mp h
    rw [asSc_some hc] at hy
    exact emit_ok ih hA hv hy cf ls hlen
  cases hi with
  | none => exact wpX_bind (.of (wpAny_tests_nil (by simp only [if_true]; exact one hv ls hlen hp)))
  | some cd =>
    obtain ⟨b, hb, hp⟩ := bindSome hp
    simp only [List.forIn_cons, List.forIn_nil, if_true]
    refine wpX_bind (wpX_bind (wpX_bind (wpX_mono (wpX_toks (it ns gs cd cenv own s ρ b A hA hv hb)) ?_)))
    rintro b' s1 ⟨htk, rfl, k⟩
    refine wpX_pure (wpX_pure ?_)
    cases b' with
    | true =>
      simp only [if_true] at hp ⊢
      exact wpX_mono (one (hv.next k htk) (ls.keeps k) hlen hp) fun _ s' h => ⟨(Mv.of_keeps k htk).trans h.1, h.2⟩
    | false =>
      simp only [Bool.false_eq_true, if_false, Option.some.injEq] at hp
      subst hp
      simp only [Bool.false_eq_true, if_false, List.append_nil]
      exact wpX_pure ⟨Mv.of_keeps k htk, vs, ls.keeps k⟩
end
end Mine

end
section
open PySem PySem.W PyProof.Rows
set_option Elab.async false
set_option maxRecDepth 100000
namespace Mine
theorem keeps_mv {T : List Addr} {s₁ s' s'' : Shared} (hT : ∀ a ∈ T, s₁.heap.get? a = none) (k : Keeps s₁ s') (mv : Mv T s' s'') : Keeps s₁ s'' := by
  obtain ⟨h', tk, rfl, hk⟩ := k
  obtain ⟨h2, tk2, rfl, hk2, _⟩ := mv
  exact ⟨h2, tk2, rfl, fun b o e => hk2 b o (fun hm => by rw [hT b hm] at e; cases e) (hk b o e)⟩
section
variable {prog : Program} {w : World} {g : Ad} {Φ : Fns} {L : Nat} {n : Nat} {ns : List Str} {gs : Gs} {env : Env} {own : Option Addr} {s : Shared} {ρ : List D} {A : Around}
theorem comp1 {use : Option (Value → Sem Unit)} {Q : Value → Shared → Prop} {elt itE : Expr} {x : Str} {px p0 pos : Pos} {ifs : List Expr} {co : Option Mine.X} {sc : Scope} {cl : Bool} {fvs : List Nat} {l : List D} {xd : D} {r : List Sc}
    (ih : EvOk prog w g Φ L n) (it : TtOk prog w g Φ L n) (hA : AOk A (n + L)) (hv : Vw g ns gs env own s ρ)
    (hcl : cellOk sc x = some cl) (hidx : idxAll ns (frees sc) = some fvs) (hso : (scopeOk sc [x] && frOk gs sc) = true) (hi : Ifs n (x :: frees sc) sc.names ifs co)
    (hx : ev Φ (tr n ns gs itE) ρ = some xd) (hl : items xd = some l) (hz : sizeOk l.length = true)
    (hr : collect (fun d => pickG Φ co (tr n (x :: frees sc) sc.names elt) (d :: fvs.map fun i => (ρ[i]?).getD .undef)) l = some r)
    (post : Post (model prog w) A own use Q s r) :
    wpX (model prog w) A (comprehension (.ListComp elt [⟨.Name x px, itE, ifs, 0⟩] sc pos) sc env p0 (newList []) false (eval itE env) use) Q s := by
  rw [Bool.and_eq_true] at hso
  have so := scOk_of hso.1
  have hlen : r.length ≤ 100000 := Nat.le_trans (collect_len (fun d a h => pickG_len h) hr) (size_ok hz)
  refine comp_core (ts := [x]) hA.1 rfl rfl (folded_of hx) hv so hso.2 hcl (fun Q k => one ih hA hv hx k) hl ?_ post
  intro cenv Z I X fp St s₁ s₂ ce cf W st0 ls v1 kk tkk hT R hR
  refine loop_collect cf (W A hA.1) (turn1 ..) (fun _ => True) (fun _ _ _ => trivial) _ hr (fun s' => Keeps s₁ s' ∧ s₁.toks ≤ s'.toks) (fun s' s'' h mv => ⟨keeps_mv hT h.1 mv, Nat.le_trans h.2 mv.toks⟩)
    (vs0 := []) (l0 := []) hlen ?_ (fun s' vs mv ls => hR s' vs mv ls) ls st0 ⟨kk, tkk⟩
  intro c v vs l1 a s' hcv hf hb ld ls' hlen' _
  refine body_ok ih it hA hi (vw_comp (ts := [x]) (ds := [.sc c]) v1 hb.1 hb.2 so hso.2 hidx ce rfl ?_ (fun _ _ h => h) (v1.ownd.ext (keeps_ext hb.1))) hf cf ls' hlen'
  intro i y d d' h1 h2 h3
  cases i with
  | zero =>
    simp only [List.getElem?_cons_zero, Option.some.injEq] at h1 h2
    subst h1; subst h2
    simp only [readable, Option.some.injEq] at h3
    subst h3
    exact ⟨v, ld, .sc hcv⟩
  | succ i => simp at h1

theorem comp2 {use : Option (Value → Sem Unit)} {Q : Value → Shared → Prop} {elt itE it2 : Expr} {x x2 : Str} {px px2 p0 pos : Pos} {ifs : List Expr} {co : Option Mine.X} {sc : Scope} {fvs : List Nat} {l : List D} {xd : D} {r : List Sc}
    (ih : EvOk prog w g Φ L n) (it : TtOk prog w g Φ L n) (hA : AOk A (n + L)) (hv : Vw g ns gs env own s ρ)
    (hcl : cellOk sc x = some false) (hcl2 : cellOk sc x2 = some false) (hidx : idxAll ns (frees sc) = some fvs) (hso : (scopeOk sc [x, x2] && frOk gs sc && !(x == x2)) = true) (hi : Ifs n (x :: x2 :: frees sc) sc.names ifs co)
    (hx : ev Φ (tr n ns gs itE) ρ = some xd) (hl : items xd = some l) (hz : sizeOk r.length = true)
    (hr : collect (fun d => (ev Φ (tr n (x :: x2 :: frees sc) sc.names it2) (d :: .undef :: fvs.map fun i => (ρ[i]?).getD .undef)).bind fun y => (items y).bind fun l2 => if sizeOk l2.length = false then none else
      collect (fun d2 => pickG Φ co (tr n (x :: x2 :: frees sc) sc.names elt) (d :: d2 :: fvs.map fun i => (ρ[i]?).getD .undef)) l2) l = some r)
    (post : Post (model prog w) A own use Q s r) :
    wpX (model prog w) A (comprehension (.ListComp elt [⟨.Name x px, itE, [], 0⟩, ⟨.Name x2 px2, it2, ifs, 0⟩] sc pos) sc env p0 (newList []) false (eval itE env) use) Q s := by
  simp only [Bool.and_eq_true, Bool.not_eq_true'] at hso
  obtain ⟨⟨hso1, hfk⟩, hxx⟩ := hso
  have so := scOk_of hso1
  have hxne : x ≠ x2 := fun e => by subst e; simp at hxx
  refine comp_core (ts := [x, x2]) hA.1 rfl rfl (folded_of hx) hv so hfk hcl (fun Q k => one ih hA hv hx k) hl ?_ post
  intro cenv Z I X fp St s₁ s₂ ce cf W st0 ls v1 kk tkk hT R hR
  refine loop_collect cf (W A hA.1) (turn2a ..) (fun _ => True) (fun _ _ _ => trivial) _ hr (fun s' => Keeps s₁ s' ∧ s₁.toks ≤ s'.toks) (fun s' s'' h mv => ⟨keeps_mv hT h.1 mv, Nat.le_trans h.2 mv.toks⟩)
    (vs0 := []) (l0 := []) (by simpa using size_ok hz) ?_ (fun s' vs mv ls => hR s' vs mv ls) ls st0 ⟨kk, tkk⟩
  intro c v vs l1 a s' hcv hf hb ld ls' hlen' hm3
  have hZ1 : s₁.heap.get? Z = none := hT Z (by simp)
  obtain ⟨yd, hy, hf⟩ := bindSome hf
  obtain ⟨l2, hl2, hf⟩ := bindSome hf
  split at hf
  · cases hf
  rename_i hz2
  have vars1 : ∀ (s' : Shared), Ld cenv s'.heap x v → ∀ (i : Nat) y d d', [x, x2][i]? = some y → [D.sc c, .undef][i]? = some d → readable d = some d' → ∃ v, Ld cenv s'.heap y v ∧ Rp (some Z) s'.heap v d' := by
    intro s' ld i y d d' h1 h2 h3
    cases i with
    | zero =>
      simp only [List.getElem?_cons_zero, Option.some.injEq] at h1 h2
      subst h1; subst h2
      simp only [readable, Option.some.injEq] at h3
      subst h3
      exact ⟨v, ld, .sc hcv⟩
    | succ i =>
      cases i with
      | zero =>
        simp only [List.getElem?_cons_succ, List.getElem?_cons_zero, Option.some.injEq] at h2
        subst h2; cases h3
      | succ i => simp at h1
  have vz : Vw g (x :: x2 :: frees sc) sc.names cenv (some Z) s' (.sc c :: .undef :: fvs.map fun i => (ρ[i]?).getD .undef) :=
    vw_comp (ts := [x, x2]) (ds := [.sc c, .undef]) v1 hb.1 hb.2 so hfk hidx ce rfl (vars1 s' ld) (fun _ _ h => h.fresh hZ1) (by rintro _ ⟨⟩; obtain ⟨k, e⟩ := ls'.acc; exact ⟨_, e⟩)
  unfold emit2
  refine wpX_bind (wpX_mono (wpX_toks (ih _ _ it2 cenv (some Z) s' _ yd A hA vz hy)) ?_)
  rintro u sb ⟨htb, rb, kb⟩
  refine wpX_stand (wpX_eq (folded_of hy u) (wpX_bind (wpX_holding (.of (iter_sound hl2 rb fun o fp2 St2 W2 st2 hfp2 _ => ?_)))))
  generalize hsa : ({ sb with heap := sb.heap.push o } : Shared) = sa
  have ka : Keeps sb sa := by rw [← hsa]; exact keeps_of (Ext.push _ _)
  have hta : sb.toks ≤ sa.toks := by rw [← hsa]; exact Nat.le_refl _
  have st2 : St2 0 sa.heap := by rw [← hsa]; exact st2
  have lsb := ls'.keeps kb
  have lsa := lsb.keeps ka
  have zlt : @LT.lt Nat _ Z sb.heap.objs.size := by obtain ⟨k, e⟩ := lsb.acc; exact Heap.lt_size e
  have clt : @LT.lt Nat _ cenv.locals sb.heap.objs.size := by obtain ⟨m, hm, _⟩ := lsb.ns; exact hm.lt
  obtain ⟨m3, hm3, _, hm3x⟩ := hm3 rfl
  have cf2 : CF x2 false cenv Z sb.heap.objs.size sb.heap.objs.size fp2 := by
    have q1 : @Ne Addr Z sb.heap.objs.size := ad_ne (.inl zlt)
    have q2 : @Ne Addr cenv.locals sb.heap.objs.size := ad_ne (.inl clt)
    refine ⟨cf.kind, .inl ⟨rfl, ?_⟩, cf.dc, q1, q2, Ne.symm q1, Ne.symm q2, fun hm => ?_, fun hm => ?_, fun e => nomatch e⟩
    · rw [ce.kindOf]
      unfold cellOk at hcl2
      split at hcl2
      · rename_i e; rw [e]; rfl
      · cases hcl2
      · cases hcl2
    · rcases hfp2 _ hm with h | ⟨h, _⟩
      · exact q1 h
      · exact h rfl
    · rcases hfp2 _ hm with h | ⟨_, ws, hp⟩
      · exact q2 h
      · obtain ⟨m, hm, _⟩ := lsb.ns
        exact listNe hp hm rfl
  have fin : ∀ sf : Shared, Mv [Z, cenv.locals, sb.heap.objs.size, sb.heap.objs.size] sa sf → Mv [Z, cenv.locals] s' sf := by
    intro sf mv
    have e1 : Mv [Z, cenv.locals] s' sb := Mv.of_keeps kb htb
    have e2 : Mv [Z, cenv.locals] sb sf := by
      obtain ⟨h', tk, rfl, hk, hl⟩ := mv
      subst hsa
      refine ⟨h', tk, rfl, fun b ob hb e => hk b ob (fun hm => ?_) (Heap.get?_push_of_some _ e), hl⟩
      simp only [List.mem_cons, List.not_mem_nil, or_false] at hm hb
      have := Heap.lt_size e
      rcases hm with h | h | h | h
      · exact hb (.inl h)
      · exact hb (.inr h)
      · rw [h] at this; exact Nat.lt_irrefl _ this
      · rw [h] at this; exact Nat.lt_irrefl _ this
    exact e1.trans e2
  have hm4 : sa.heap.Ns cenv.locals m3 := ns_ext hm3 ((keeps_ext kb).trans (keeps_ext ka))
  have L : codeX (model prog w) A (.compLoop (.ListComp elt [⟨.Name x px, itE, [], 0⟩, ⟨.Name x2 px2, it2, ifs, 0⟩] sc pos) 1 (.ref sb.heap.objs.size) (.ref Z) cenv)
      (okF fun _ sf => Mv [Z, cenv.locals] s' sf ∧ ∃ ws, LS false cenv Z X (fun _ => True) ws (l1 ++ a) sf) sa := by
    have hkx : cenv.kindOf x = some .local := by
      rcases cf.tgt with ⟨_, h⟩ | ⟨h, _⟩
      · exact h
      · cases h
    refine loop_collect cf2 (W2 A hA.1) (turn2b ..) (fun m => m x = some v) (fun m u h => by simp only [if_neg hxne]; exact h) _ hf (fun s3 => Keeps s₁ s3 ∧ s₁.toks ≤ s3.toks) ?_
      (vs0 := vs) (l0 := l1) hlen' ?_ ?_ ⟨lsa.acc, lsa.are, ⟨m3, hm4, hm3x⟩, fun e => nomatch e⟩ st2 ⟨keeps_trans hb.1 (keeps_trans kb ka), Nat.le_trans hb.2 (Nat.le_trans htb hta)⟩
    · intro s3 s4 h3 mv
      refine ⟨keeps_mv (T := [Z, cenv.locals, sb.heap.objs.size, sb.heap.objs.size]) ?_ h3.1 mv, Nat.le_trans h3.2 mv.toks⟩
      intro b hm
      simp only [List.mem_cons, List.not_mem_nil, or_false] at hm
      have kb1 : Ext s₁.heap sb.heap := (keeps_ext hb.1).trans (keeps_ext kb)
      rcases hm with rfl | rfl | rfl | rfl
      · exact hZ1
      · exact hT _ (by simp)
      · exact none_of kb1 (fresh_none (Nat.le_refl _))
      · exact none_of kb1 (fresh_none (Nat.le_refl _))
    · intro c2 v2 vs2 l3 a2 s3 hcv2 hf2 hb3 ld2 ls3 hlen3 hm5
      obtain ⟨m5, hm5, hm5x, _⟩ := hm5 rfl
      refine body_ok ih it hA hi (vw_comp (ts := [x, x2]) (ds := [.sc c, .sc c2]) (own' := own) v1 hb3.1 hb3.2 so hfk hidx ce rfl ?_ (fun _ _ h => h) (v1.ownd.ext (keeps_ext hb3.1))) hf2 cf2 ls3 hlen3
      intro i y d d' h1 h2 h3
      cases i with
      | zero =>
        simp only [List.getElem?_cons_zero, Option.some.injEq] at h1 h2
        subst h1; subst h2
        simp only [readable, Option.some.injEq] at h3
        subst h3
        exact ⟨v, .inl ⟨hkx, m5, hm5, hm5x⟩, .sc hcv⟩
      | succ i =>
        cases i with
        | zero =>
          simp only [List.getElem?_cons_succ, List.getElem?_cons_zero, Option.some.injEq] at h1 h2
          subst h1; subst h2
          simp only [readable, Option.some.injEq] at h3
          subst h3
          exact ⟨v2, ld2, .sc hcv2⟩
        | succ i => simp at h1
    · intro sf vs' mv lsf
      exact ⟨fin sf mv, vs', lsf.acc, lsf.are, let ⟨m, hm, _⟩ := lsf.ns; ⟨m, hm, trivial⟩, fun e => nomatch e⟩
  refine wpX_bind (wpX_runOwn (codeX_mono (codeX_compStart (k := 1) rfl rfl L (.of ((W2 A hA.1).self 0 _ _ _ st2 L))) fun r s h => ?_))
  cases r with
  | ok f => exact wpX_pure h
  | error e => exact h
end
end Mine

end
section
open PySem PySem.W PyProof.Rows
set_option Elab.async false
set_option maxRecDepth 100000
namespace Mine
section
variable {prog : Program} {w : World} {g : Ad} {Φ : Fns} {L : Nat} {n : Nat} {ns : List Str} {gs : Gs} {env : Env} {own : Option Addr} {s : Shared} {ρ : List D} {A : Around}
theorem case_const {c : Const} {k : Nat} {pos : Pos} {d : D} (h : ev Φ (trConst c) ρ = some d) : wpX (model prog w) A (eval (.Constant c k pos) env) (Ps own s d) s := by
  cases c with
  | bool b => exact .of (wpAny_pure ⟨Option.some.inj h ▸ .mkBool, keeps_refl s⟩)
  | int i => exact .of (wpAny_Constant_int ⟨Option.some.inj h ▸ .mkInt, keeps_toks s _⟩)
  | str x => exact .of (wpAny_Constant_str ⟨Option.some.inj h ▸ .mkStr, keeps_toks s _⟩)
  | _ => exact fail_no h
theorem ifs_of {ifs : List Expr} {co : Option Mine.X} (h : trIfs (trT n ns gs) ifs = some co) : Ifs n ns gs ifs co := by
  cases ifs with
  | nil => cases h; exact .none
  | cons c r =>
    obtain ⟨u, hu, rfl⟩ := Option.map_eq_some_iff.mp h
    cases l0_some hu
    exact .some _
theorem collect_congr {f f' : D → Option (List Sc)} (h : ∀ d, f d = f' d) : ∀ l, collect f l = collect f' l
  | [] => rfl
  | d :: l => by simp only [collect, h d, collect_congr h l]
theorem comp_ev {cl : Bool} {fvs : List Nat} {it elt : Mine.X} {co : Option Mine.X} {d : D} (h : ev Φ (.comp cl fvs it co elt) ρ = some d) :
    ∃ xd l r, ev Φ it ρ = some xd ∧ items xd = some l ∧ sizeOk l.length = true ∧ collect (fun d => pickG Φ co elt (d :: fvs.map fun i => (ρ[i]?).getD .undef)) l = some r ∧ d = .list r := by
  cases co with
  | none =>
    obtain ⟨xd, hx, h⟩ := bindSome h
    obtain ⟨l, hl, h⟩ := bindSome h
    obtain ⟨hz, h⟩ := ite_none h
    obtain ⟨r, hr, rfl⟩ := Option.map_eq_some_iff.mp h
    exact ⟨xd, l, r, hx, hl, by simpa using hz, hr, rfl⟩
  | some cd =>
    obtain ⟨xd, hx, h⟩ := bindSome h
    obtain ⟨l, hl, h⟩ := bindSome h
    obtain ⟨hz, h⟩ := ite_none h
    obtain ⟨r, hr, rfl⟩ := Option.map_eq_some_iff.mp h
    exact ⟨xd, l, r, hx, hl, by simpa using hz, hr, rfl⟩
theorem comp2_ev {fvs : List Nat} {it it2 elt : Mine.X} {co : Option Mine.X} {d : D} (h : ev Φ (.comp2 fvs it it2 co elt) ρ = some d) :
    ∃ xd l r, ev Φ it ρ = some xd ∧ items xd = some l ∧ sizeOk r.length = true ∧
      collect (fun d => (ev Φ it2 (d :: .undef :: fvs.map fun i => (ρ[i]?).getD .undef)).bind fun y => (items y).bind fun l2 => if sizeOk l2.length = false then none else
        collect (fun d2 => pickG Φ co elt (d :: d2 :: fvs.map fun i => (ρ[i]?).getD .undef)) l2) l = some r ∧ d = .list r := by
  cases co with
  | none =>
    obtain ⟨xd, hx, h⟩ := bindSome h
    obtain ⟨l, hl, h⟩ := bindSome h
    obtain ⟨_, h⟩ := ite_none h
    obtain ⟨r, hr, h⟩ := bindSome h
    obtain ⟨hz, h⟩ := ite_some h
    cases h; exact ⟨xd, l, r, hx, hl, hz, hr, rfl⟩
  | some cd =>
    obtain ⟨xd, hx, h⟩ := bindSome h
    obtain ⟨l, hl, h⟩ := bindSome h
    obtain ⟨_, h⟩ := ite_none h
    obtain ⟨r, hr, h⟩ := bindSome h
    obtain ⟨hz, h⟩ := ite_some h
    cases h; exact ⟨xd, l, r, hx, hl, hz, hr, rfl⟩
/-- a comprehension, its value taken or stored -/
theorem comp_any {use : Option (Value → Sem Unit)} {Q : Value → Shared → Prop} {elt : Expr} {gens : List Comprehension} {sc : Scope} {pos p0 : Pos} {d : D}
    (ih : EvOk prog w g Φ L n) (it : TtOk prog w g Φ L n) (hA : AOk A (n + L)) (hv : Vw g ns gs env own s ρ) (h : ev Φ (trComp (tr n) (trT n) ns gs elt sc gens) ρ = some d)
    (post : ∀ r, d = .list r → Post (model prog w) A own use Q s r) :
    wpX (model prog w) A (comprehension (.ListComp elt gens sc pos) sc env p0 (newList []) (firstAsync gens) (firstIter gens env) use) Q s := by
  obtain ⟨c, hc, h⟩ | h := elX_ev h
  · cases l1_some hc
    obtain ⟨tg, itr, ifs, a⟩ := c
    obtain ⟨ha, h⟩ := ifX_ev h
    cases of_decide_eq_true ha
    obtain ⟨q, hq, h⟩ := onX_ev h
    cases asName_some hq
    obtain ⟨cl, hcl, h⟩ := onX_ev h
    obtain ⟨fvs, hidx, h⟩ := onX_ev h
    obtain ⟨hso, h⟩ := ifX_ev h
    obtain ⟨co, hco, h⟩ := onX_ev h
    obtain ⟨xd, l, r, h1, h2, h3, h4, h5⟩ := comp_ev h
    exact comp1 ih it hA hv hcl hidx hso (ifs_of hco) h1 h2 h3 h4 (post r h5)
  · obtain ⟨c, hc, h⟩ := onX_ev h
    cases l2_some hc
    obtain ⟨⟨tg, itr, ifs, a⟩, tg2, it2, ifs2, a2⟩ := c
    obtain ⟨ha, h⟩ := ifX_ev h
    obtain ⟨e1, e2⟩ := of_decide_eq_true ha
    cases e1; cases e2
    obtain ⟨q, hq, h⟩ := onX_ev h
    cases asName_some hq
    obtain ⟨q2, hq2, h⟩ := onX_ev h
    cases asName_some hq2
    obtain ⟨u, hu, h⟩ := onX_ev h
    cases l0_some hu
    obtain ⟨hcl, h⟩ := ifX_ev h
    have hcl := of_decide_eq_true hcl
    obtain ⟨fvs, hidx, h⟩ := onX_ev h
    obtain ⟨hso, h⟩ := ifX_ev h
    obtain ⟨co, hco, h⟩ := onX_ev h
    obtain ⟨xd, l, r, h1, h2, h3, h4, h5⟩ := comp2_ev h
    exact comp2 ih it hA hv hcl.1 hcl.2 hidx hso (ifs_of hco) h1 h2 h3 h4 (post r h5)
end
end Mine

end
section
open PySem PySem.W PyProof.Rows
set_option Elab.async false
set_option maxRecDepth 100000
namespace Mine
section
variable {prog : Program} {w : World} {g : Ad} {Φ : Fns} {L : Nat} {n : Nat} {ns : List Str} {gs : Gs} {env : Env} {own : Option Addr} {s : Shared} {ρ : List D} {A : Around}
theorem AOk.down {n L : Nat} (h : AOk A (n + 1 + L)) : AOk A (n + L) := h.le (by lia)
theorem sub_ok {a i : Expr} {pos : Pos} {d : D} (ih : EvOk prog w g Φ L n) (hA : AOk A (n + L)) (hv : Vw g ns gs env own s ρ) (h : ev Φ (trSub (tr n ns gs) a i) ρ = some d) : wpX (model prog w) A (eval (.Subscript a i pos) env) (Ps own s d) s := by
  obtain ⟨q, hq, h⟩ | h := elX_ev h
  · rw [asSlice_some hq]
    clear hq
    obtain ⟨lo, hi, st, p⟩ := q
    obtain ⟨u, hu, h⟩ := onX_ev h
    have e : st = none := no1_some hu
    subst e
    cases lo with
    | none => cases hi with
      | none =>
        obtain ⟨x, hx, h⟩ := bindSome h
        exact case_slice ih hA hv hx .none .none h
      | some hi =>
        obtain ⟨x, hx, h⟩ := bindSome h
        obtain ⟨y, hy, h⟩ := bindSome h
        exact case_slice ih hA hv hx .none (.some hy) h
    | some lo => cases hi with
      | none =>
        obtain ⟨x, hx, h⟩ := bindSome h
        obtain ⟨y, hy, h⟩ := bindSome h
        exact case_slice ih hA hv hx (.some hy) .none h
      | some hi =>
        obtain ⟨x, hx, h⟩ := bindSome h
        obtain ⟨y, hy, h⟩ := bindSome h
        obtain ⟨z, hz, h⟩ := bindSome h
        exact case_slice ih hA hv hx (.some hy) (.some hz) h
  · exact case_idx ih hA hv h
theorem list_ok {es : List Expr} {pos : Pos} {d : D} (ih : EvOk prog w g Φ L n) (hA : AOk A (n + L)) (hv : Vw g ns gs env own s ρ) (h : ev Φ (trList (tr n ns gs) es) ρ = some d) : wpX (model prog w) A (eval (.List es pos) env) (Ps own s d) s := by
  obtain ⟨q, hq, h⟩ | h := elX_ev h
  · rw [l1_some hq]; exact case_l1 ih hA hv h
  obtain ⟨q, hq, h⟩ | h := elX_ev h
  · rw [l3_some hq]; exact case_l3 ih hA hv h
  obtain ⟨q, hq, h⟩ := onX_ev h
  rw [l0_some hq]; exact case_l0 hv h
theorem callN_ok {x : Str} {p : Pos} {args : List Expr} {pos : Pos} {d : D} (ih : EvOk prog w g Φ L n) (hΦ : FnsOk prog w g Φ L) (hA : AOk A (n + L)) (hv : Vw g ns gs env own s ρ) (h : ev Φ (trCallN (tr n ns gs) gs x args) ρ = some d) :
    wpX (model prog w) A (eval (.Call (.Name x p) args [] pos) env) (Ps own s d) s := by
  obtain ⟨hG, h⟩ := ifX_ev h
  obtain ⟨q, hq, h⟩ | h := elX_ev h
  · rw [l1_some hq]
    obtain ⟨k, hk, h⟩ := onX_ev h
    exact case_f1 ih hΦ hA hv hG hk h
  obtain ⟨q, hq, h⟩ | h := elX_ev h
  · rw [l2_some hq]
    obtain ⟨k, hk, h⟩ := onX_ev h
    exact case_f2 ih hΦ hA hv hG hk h
  obtain ⟨q, hq, h⟩ := onX_ev h
  rw [l3_some hq]
  obtain ⟨k, hk, h⟩ := onX_ev h
  exact case_f3 ih hΦ hA hv hG hk h
theorem meth_ok {o : Expr} {m : Str} {apos : Pos} {args : List Expr} {pos : Pos} {d : D} (ih : EvOk prog w g Φ L n) (hA : AOk A (n + L)) (hv : Vw g ns gs env own s ρ) (h : ev Φ (trMeth (tr n ns gs) gs o m args (apos.endLine == pos.line)) ρ = some d) :
    wpX (model prog w) A (eval (.Call (.Attribute o m apos) args [] pos) env) (Ps own s d) s := by
  obtain ⟨hl, h⟩ := ifX_ev h
  obtain ⟨k, hk, h⟩ | h := elX_ev h
  · obtain ⟨hg, h⟩ := ifX_ev h
    exact case_m0 ih hA hv hl (m0Of_some hk) (fun e => (Bool.or_eq_true_iff.mp hg).resolve_left fun h => by rw [e] at h; cases h) h
  obtain ⟨k, hk, h⟩ := onX_ev h
  obtain ⟨q, hq, h⟩ := onX_ev h
  rw [l1_some hq]
  exact case_m1 ih hA hv hl hk h
theorem call_ok {f : Expr} {args : List Expr} {kws : List Keyword} {pos : Pos} {d : D} (ih : EvOk prog w g Φ L n) (hΦ : FnsOk prog w g Φ L) (hA : AOk A (n + L)) (hv : Vw g ns gs env own s ρ) (h : ev Φ (trCall (tr n ns gs) gs f args kws pos) ρ = some d) :
    wpX (model prog w) A (eval (.Call f args kws pos) env) (Ps own s d) s := by
  obtain ⟨u, hu, h⟩ := onX_ev h
  rw [l0_some hu]
  obtain ⟨q, hq, h⟩ | h := elX_ev h
  · rw [asName_some hq]; exact callN_ok ih hΦ hA hv h
  obtain ⟨q, hq, h⟩ := onX_ev h
  rw [asAttr_some hq]
  exact meth_ok ih hA hv h
theorem ev_step (ih : EvOk prog w g Φ L n) (it : TtOk prog w g Φ L n) (hΦ : FnsOk prog w g Φ L) : EvOk prog w g Φ L (n + 1) := by
  intro ns gs e env own s ρ d A hA hv h
  have hA := hA.down
  cases e with
  | Constant c k p => exact case_const h
  | Name x p => exact case_name hv h
  | BinOp a o b p => obtain ⟨q, hq, h⟩ := onX_ev h; exact case_bin ih hA hv hq h
  | UnaryOp o a p => cases o with
    | USub => exact case_neg ih hA hv h
    | _ => exact fail_no h
  | Compare a os bs p =>
    obtain ⟨o, ho, h⟩ := onX_ev h
    obtain ⟨c, hc, h⟩ := onX_ev h
    obtain ⟨b, hb, h⟩ := onX_ev h
    rw [l1_some ho]
    rw [l1_some hb]
    exact case_cmp ih hA hv hc h
  | IfExp t a b p => exact case_ite ih it hA hv h
  | Subscript a i p => exact sub_ok ih hA hv h
  | List es p => exact list_ok ih hA hv h
  | Tuple es k p => obtain ⟨q, hq, h⟩ := onX_ev h; exact case_tup hv hq h
  | Call f args kws p => exact call_ok ih hΦ hA hv h
  | ListComp elt gens sc p =>
    rw [eval_ListComp]
    exact comp_any (use := none) ih it hA hv h fun r hr v s' ps => hr ▸ ps
  | _ => exact fail_no h
theorem behind_of {b : Expr} {y : D} {op : CmpOp} (hy : ev Φ (tr n ns gs b) ρ = some y) : behindInMarks op b = false := by
  cases b <;> first | rfl | (cases n <;> exact fail_no hy)
theorem tt_cmp {a : Expr} {os : List CmpOp} {bs : List Expr} {pos : Pos} {b : Bool} (ih : EvOk prog w g Φ L n) (hA : AOk A (n + L)) (hv : Vw g ns gs env own s ρ) (h : (ev Φ (trCmp (tr n ns gs) a os bs) ρ).bind truthy = some b) {whole : Sem Value} :
    wpX (model prog w) A (isTrue (.Compare a os bs pos) env whole) (fun b' s' => b' = b ∧ Keeps s s') s := by
  obtain ⟨d, h, hb⟩ := bindSome h
  obtain ⟨o, ho, h⟩ := onX_ev h
  obtain ⟨c, hc, h⟩ := onX_ev h
  obtain ⟨q, hq, h⟩ := onX_ev h
  rw [l1_some ho]
  rw [l1_some hq]
  obtain ⟨x, hx, h⟩ := bindSome h
  obtain ⟨y, hy, h⟩ := bindSome h
  obtain ⟨z, hz, rfl⟩ := Option.map_eq_some_iff.mp h
  refine wpX_isTrue_Compare1 (two ih hA hv hx hy fun v u s' r1 r2 k v' => wpX_mono (.of (cmpop_sound (hA.le (by lia)) hc hz r1 r2)) fun q s'' hq => ?_) ?_
  · exact wpX_mono (.of (truthy_sound hb hq.1)) fun _ _ hh => ⟨hh.1, keeps_trans k (keeps_trans hq.2 hh.2)⟩
  · exact behind_of hy
theorem and_then {c b : Bool} {p : Prop} (h : (c = true ∧ p) ∨ (c = false ∧ b = false)) (hc : c = true) : p := h.elim (fun h => h.2) fun h => by rw [hc] at h; cases h.1
theorem and_else {c b : Bool} {p : Prop} (h : (c = true ∧ p) ∨ (c = false ∧ b = false)) (hc : c = false) : b = false := h.elim (fun h => by rw [hc] at h; cases h.1) fun h => h.2
theorem tt_and2 {a b : Expr} {pos : Pos} {c : Bool} (it : TtOk prog w g Φ L n) (hA : AOk A (n + L)) (hv : Vw g ns gs env own s ρ) (h : (ev Φ (.and (trT n ns gs a) (trT n ns gs b)) ρ).bind truthy = some c) {whole : Sem Value} :
    wpX (model prog w) A (isTrue (.BoolOp .And [a, b] pos) env whole) (fun b' s' => b' = c ∧ Keeps s s') s := by
  obtain ⟨x, hx, h⟩ := and_split h
  exact wpX_isTrue_BoolOp (all_cons it hA hv hx (fun ht s' v' => all_cons it hA v' (and_then h ht) (fun hb s'' v'' => wpX_allTrue_nil ⟨hb.symm, keeps_refl _⟩) fun hb => hb) (and_else h))
theorem tt_and3 {a b d : Expr} {pos : Pos} {c : Bool} (it : TtOk prog w g Φ L n) (hA : AOk A (n + L)) (hv : Vw g ns gs env own s ρ) (h : (ev Φ (.and (trT n ns gs a) (.and (trT n ns gs b) (trT n ns gs d))) ρ).bind truthy = some c) {whole : Sem Value} :
    wpX (model prog w) A (isTrue (.BoolOp .And [a, b, d] pos) env whole) (fun b' s' => b' = c ∧ Keeps s s') s := by
  obtain ⟨x, hx, h⟩ := and_split h
  refine wpX_isTrue_BoolOp (all_cons it hA hv hx (fun ht s' v' => ?_) (and_else h))
  obtain ⟨y, hy, h⟩ := and_split (and_then h ht)
  exact all_cons it hA v' hy (fun ht s'' v'' => all_cons it hA v'' (and_then h ht) (fun hb s3 v3 => wpX_allTrue_nil ⟨hb.symm, keeps_refl _⟩) fun hb => hb) (and_else h)
theorem fail_tt {b : Bool} {P : Prop} (h : (ev Φ .fail ρ).bind truthy = some b) : P := nope h
theorem tt_step (ih : EvOk prog w g Φ L n) (it : TtOk prog w g Φ L n) (ihp : ∀ m, n = m + 1 → EvOk prog w g Φ L m) : TtOk prog w g Φ L (n + 1) := by
  intro ns gs e env own s ρ b A hA hv h
  have hA := hA.down
  cases e with
  | UnaryOp o a p => cases o with
    | Not => exact test_not it hA hv h
    | _ => exact fail_tt h
  | BoolOp o l p => cases o with
    | And =>
      obtain ⟨d, h, hb⟩ := bindSome h
      obtain ⟨q, hq, h⟩ | h := elX_ev h
      · rw [l2_some hq]; exact tt_and2 it hA hv (Option.bind_eq_some_iff.mpr ⟨d, h, hb⟩)
      obtain ⟨q, hq, h⟩ := onX_ev h
      rw [l3_some hq]; exact tt_and3 it hA hv (Option.bind_eq_some_iff.mpr ⟨d, h, hb⟩)
    | _ => exact fail_tt h
  | IfExp => exact fail_tt h
  | Compare a os bs p => cases n with
    | zero => exact fail_tt h
    | succ m => exact tt_cmp (ihp m rfl) hA.down hv h
  | _ => exact test_value ih hA hv h rfl
theorem ev_sound (hΦ : FnsOk prog w g Φ L) : ∀ n, EvOk prog w g Φ L n ∧ TtOk prog w g Φ L n ∧ (∀ m, n = m + 1 → EvOk prog w g Φ L m)
  | 0 => ⟨fun ns gs e env own s ρ d A hA hv h => fail_no h, fun ns gs e env own s ρ d A hA hv h => fail_tt h, fun m e => nomatch e⟩
  | n + 1 => by
    obtain ⟨h1, h2, h3⟩ := ev_sound hΦ n
    exact ⟨ev_step h1 h2 hΦ, tt_step h1 h2 h3, fun m e => by cases e; exact h1⟩
end
end Mine

end
section
open PySem PySem.W PyProof.Rows
set_option Elab.async false
set_option maxRecDepth 100000
namespace Mine

/-- objects that no datum stands for: namespaces, cells, iterators -/
noncomputable def EnvObj (o : Obj) : Prop := (∃ es ep, o.data = .dict es ep) ∨ ∃ v, o.data = .cell v
noncomputable def Inert (o : Obj) : Prop := EnvObj o ∨ ItObj o
theorem itObj_not_env {o : Obj} (h : ItObj o) (hd : ∃ es, o.data = .fields es) : ¬ EnvObj o := by
  obtain ⟨es, hd⟩ := hd
  rintro (⟨es', ep, h'⟩ | ⟨v, h'⟩) <;> rw [hd] at h' <;> cases h'
theorem not_inert_seq {o : Obj} {xs : Array Value} {n : Nat} {T : String} (hc : o.cls = .type T) (hd : o.data = .seq xs n) (h1 : T ≠ "list_iterator") (h2 : T ≠ "range_iterator") (h3 : T ≠ "str_ascii_iterator") : ¬ Inert o := by
  rintro ((⟨es', ep, h'⟩ | ⟨v, h'⟩) | (h' | h' | h'))
  · rw [hd] at h'; cases h'
  · rw [hd] at h'; cases h'
  · rw [hc] at h'; cases h'; exact h1 rfl
  · rw [hc] at h'; cases h'; exact h2 rfl
  · rw [hc] at h'; cases h'; exact h3 rfl

/-- what a variable holds -/
noncomputable def Hd (own : Option Addr) (h : Heap) (v : Value) : D → Prop
  | .undef => True
  | .own l => ∃ a vs, own = some a ∧ v = .ref a ∧ h.PlainList a (List.toArray vs) ∧ Are vs l
  | .ba l => ∃ a n, own = some a ∧ v = .ref a ∧ h.get? a = some (baObj l n)
  | .bm _ => ∃ a b, own = some a ∧ v = .ref b ∧ h.get? b = some (bmObj a)
  | d => Rp own h v d
theorem hd_of {own : Option Addr} {h : Heap} {v : Value} {d : D} (r : Rp own h v d) : Hd own h v d := by
  cases r with
  | sc e => exact .sc e
  | list p a n => exact .list p a n
  | tup p a n => exact .tup p a n
  | rng p n => exact .rng p n
  | fba p n => exact .fba p n
theorem hd_read {own : Option Addr} {h : Heap} {v : Value} {d d' : D} (r : Hd own h v d) (hr : readable d = some d') : d' = d ∧ Rp own h v d := by
  cases d <;> simp only [readable, Option.some.injEq, reduceCtorEq] at hr <;> exact ⟨hr.symm, r⟩
theorem Rp.inert {own : Option Addr} {h h' : Heap} {v : Value} {d : D} (r : Rp own h v d) (k : ∀ b o, ¬ Inert o → h.get? b = some o → h'.get? b = some o) : Rp own h' v d := by
  have ne : ∀ (T : String), (T = "list" ∨ T = "tuple" ∨ T = "range" ∨ T = "bytearray" ∨ T = "builtin_function_or_method") → T ≠ "list_iterator" ∧ T ≠ "range_iterator" ∧ T ≠ "str_ascii_iterator" := by
    rintro T (rfl | rfl | rfl | rfl | rfl) <;> decide
  cases r with
  | sc e => exact .sc e
  | list p a n =>
    obtain ⟨m, e⟩ := p
    obtain ⟨h1, h2, h3⟩ := ne "list" (by simp)
    exact .list ⟨m, k _ _ (not_inert_seq rfl rfl h1 h2 h3) e⟩ a n
  | tup p a n =>
    obtain ⟨o, e, hc, m, hd⟩ := p
    obtain ⟨h1, h2, h3⟩ := ne "tuple" (by simp)
    exact .tup ⟨o, k _ _ (not_inert_seq hc hd h1 h2 h3) e, hc, m, hd⟩ a n
  | rng p n =>
    refine .rng (k _ _ ?_ p) n
    rintro ((⟨es', ep, h'⟩ | ⟨v, h'⟩) | (h' | h' | h')) <;> simp at h'
  | fba p n =>
    refine .fba (k _ _ ?_ p) n
    rintro ((⟨es', ep, h'⟩ | ⟨v, h'⟩) | (h' | h' | h')) <;> simp at h'
theorem ba_not_inert {l : List UInt8} {n : Nat} : ¬ Inert (baObj l n) := by
  rintro ((⟨es', ep, h'⟩ | ⟨v, h'⟩) | (h' | h' | h')) <;> simp at h'
theorem bm_not_inert {a : Addr} : ¬ Inert (bmObj a) := by
  rintro ((⟨es', ep, h'⟩ | ⟨v, h'⟩) | (h' | h' | h')) <;> simp at h'
theorem ls_not_inert {vs : List Value} {n : Nat} : ¬ Inert (lsObj vs n) := not_inert_seq rfl rfl (by decide) (by decide) (by decide)
theorem Hd.inert {own : Option Addr} {h h' : Heap} {v : Value} {d : D} (r : Hd own h v d) (k : ∀ b o, ¬ Inert o → h.get? b = some o → h'.get? b = some o) : Hd own h' v d := by
  cases d with
  | undef => trivial
  | own l => obtain ⟨a, vs, h1, h2, ⟨n, e⟩, h4⟩ := r; exact ⟨a, vs, h1, h2, ⟨n, k _ _ ls_not_inert e⟩, h4⟩
  | ba l => obtain ⟨a, n, h1, h2, e⟩ := r; exact ⟨a, n, h1, h2, k _ _ ba_not_inert e⟩
  | bm i => obtain ⟨a, b, h1, h2, e⟩ := r; exact ⟨a, b, h1, h2, k _ _ bm_not_inert e⟩
  | sc c => exact Rp.inert r k
  | list l => exact Rp.inert r k
  | tup l => exact Rp.inert r k
  | rng a b c => exact Rp.inert r k
  | fba l => exact Rp.inert r k
theorem Hd.ext {own : Option Addr} {h h' : Heap} {v : Value} {d : D} (r : Hd own h v d) (k : Ext h h') : Hd own h' v d := r.inert fun b o _ e => k b o e

/-- the variable that holds the object itself -/
noncomputable def isOB : D → Bool
  | .own _ => true
  | .ba _ => true
  | _ => false
/-- the object under way: the caller's, while the callee has none -/
noncomputable def Ph (own ownc : Option Addr) (env : Env) (s₀ : Shared) (ρ : List D) : Prop :=
  (clean ρ = true ∧ own = ownc) ∨ (clean ρ = false ∧ ∃ a, own = some a ∧ s₀.heap.get? a = none ∧ a ≠ env.locals ∧ (∀ n c, env.cells.lookup n = some c → c ≠ a) ∧ ∃ i, ∀ (j : Nat) d, ρ[j]? = some d → isOB d = true → j = i)

/-- the frame of a function at work -/
structure Fr0 (g : Ad) (ns : List Str) (gs : Gs) (env : Env) (ownc own : Option Addr) (s₀ s : Shared) (ρ : List D) : Prop where
  kind : env.scope.kind = .function
  kinds : ∀ y k, gs.lookup y = some k → env.kindOf y = some k ∨ (k = .free ∧ env.kindOf y = some .cell)
  cells : ∀ y, env.kindOf y = some .cell ∨ env.kindOf y = some .free → ∃ c, env.cells.lookup y = some c
  globals : env.globals = mainGlobals
  builtins : env.builtins = builtinsNs
  nodebug : ∀ x ∈ ns, (x == ("__debug__" : Str)) = false
  nodup : ns.Nodup
  len : ns.length = ρ.length
  stored : ∀ x ∈ ns, env.kindOf x = some .local ∨ env.kindOf x = some .cell
  ok : GlobOk g s₀.heap
  toks0 : 1 ≤ s₀.toks
  toks : s₀.toks ≤ s.toks
  alive0 : Own ownc s₀.heap
  alive : Own own s.heap
  fr : ∃ m cm, InCallC s₀ env.locals m env.cells cm s ∧ ∀ (i : Nat) x d, ns[i]? = some x → ρ[i]? = some d → d ≠ .undef →
    ∃ v, ((env.kindOf x = some .local ∧ m x = some v) ∨ (env.kindOf x = some .cell ∧ cm x = some v)) ∧ Hd own s.heap v d

structure Fr (g : Ad) (ns : List Str) (gs : Gs) (env : Env) (ownc own : Option Addr) (s₀ s : Shared) (ρ : List D) : Prop extends Fr0 g ns gs env ownc own s₀ s ρ where
  ph : Ph own ownc env s₀ ρ
/-- what other frames rely on: what is no namespace, no cell and not the object under way stays -/
noncomputable def Pr (own own' : Option Addr) (s s' : Shared) : Prop := ∀ b o, ¬ EnvObj o → own ≠ some b → s.heap.get? b = some o → s'.heap.get? b = some o ∧ own' ≠ some b
theorem Pr.trans {o1 o2 o3 : Option Addr} {a b c : Shared} (x : Pr o1 o2 a b) (y : Pr o2 o3 b c) : Pr o1 o3 a c := fun d o hn ho e => let ⟨e1, e2⟩ := x d o hn ho e; y d o hn e2 e1
theorem Pr.of_keeps {own : Option Addr} {a b : Shared} (k : Keeps a b) : Pr own own a b := fun d o _ ho e => ⟨keeps_ext k _ _ e, ho⟩
theorem Pr.refl (own : Option Addr) (s : Shared) : Pr own own s s := .of_keeps (keeps_refl s)

section
variable {g : Ad} {ns : List Str} {gs : Gs} {env : Env} {ownc own : Option Addr} {s₀ s s' : Shared} {ρ : List D}
theorem Fr0.keep (f : Fr0 g ns gs env ownc own s₀ s ρ) : Keeps s₀ s := by
  obtain ⟨m, cm, x, _⟩ := f.fr
  obtain ⟨h, tk, rfl⟩ := x.toInCall.same
  exact ⟨h, tk, rfl, x.toInCall.keep⟩
theorem Fr0.vw (f : Fr0 g ns gs env ownc own s₀ s ρ) : Vw g ns gs env own s ρ := by
  refine ⟨f.kind, f.kinds, f.cells, f.globals, f.builtins, f.ok.ext (keeps_ext f.keep), Nat.le_trans f.toks0 f.toks, f.alive, fun i x d d' h1 h2 h3 => ?_, f.nodebug⟩
  obtain ⟨m, cm, x', hv⟩ := f.fr
  have hne : d ≠ .undef := by rintro rfl; cases h3
  obtain ⟨v, hk, hd⟩ := hv i x d h1 h2 hne
  obtain ⟨rfl, r⟩ := hd_read hd h3
  refine ⟨v, ?_, r⟩
  rcases hk with ⟨hk, hm⟩ | ⟨hk, hm⟩
  · exact .inl ⟨hk, m, x'.toInCall.ns, hm⟩
  · obtain ⟨c, hc⟩ := f.cells x (.inl hk)
    exact .inr ⟨.inl hk, c, hc, hm ▸ x'.cell x c hc⟩
theorem Fr.next (f : Fr g ns gs env ownc own s₀ s ρ) (k : Keeps s s') (ht : s.toks ≤ s'.toks) : Fr g ns gs env ownc own s₀ s' ρ := by
  obtain ⟨m, cm, x, hv⟩ := f.fr
  refine ⟨⟨f.kind, f.kinds, f.cells, f.globals, f.builtins, f.nodebug, f.nodup, f.len, f.stored, f.ok, f.toks0, Nat.le_trans f.toks ht, f.alive0, f.alive.ext (keeps_ext k), m, cm, ?_, fun i y d h1 h2 h3 => let ⟨v, hk, hd⟩ := hv i y d h1 h2 h3; ⟨v, hk, hd.ext (keeps_ext k)⟩⟩, f.ph⟩
  obtain ⟨h', tk, rfl, hk⟩ := k
  exact x.kept hk
/-- an object that stands for nothing turns -/
theorem Fr.turn (f : Fr g ns gs env ownc own s₀ s ρ) {C : Addr} {h' : Heap} {tk : Nat} (h0 : s₀.heap.get? C = none) (hL : C ≠ env.locals) (hc : ∀ n c, env.cells.lookup n = some c → c ≠ C) (hin : ∀ o, s.heap.get? C = some o → Inert o) (ho : own ≠ some C)
    (hk : ∀ b o, b ≠ C → s.heap.get? b = some o → h'.get? b = some o) (ht : s.toks ≤ tk) : Fr g ns gs env ownc own s₀ { s with heap := h', toks := tk } ρ := by
  obtain ⟨m, cm, x, hv⟩ := f.fr
  have hk' : ∀ b o, ¬ Inert o → s.heap.get? b = some o → h'.get? b = some o := fun b o hn e => hk b o (fun e' => hn (hin o (e' ▸ e))) e
  refine ⟨⟨f.kind, f.kinds, f.cells, f.globals, f.builtins, f.nodebug, f.nodup, f.len, f.stored, f.ok, f.toks0, Nat.le_trans f.toks ht, f.alive0, fun a e => ?_, m, cm, ⟨⟨?_, ?_, ?_, x.toInCall.fresh⟩, fun n c e => ?_, x.apart, x.above⟩, fun i y d h1 h2 h3 => let ⟨v, hk, hd⟩ := hv i y d h1 h2 h3; ⟨v, hk, hd.inert hk'⟩⟩, f.ph⟩
  · obtain ⟨o, e'⟩ := f.alive a e
    exact ⟨o, hk a o (fun e2 => ho (e2 ▸ e)) e'⟩
  · obtain ⟨h₁, t₁, rfl⟩ := x.toInCall.same; exact ⟨h', tk, rfl⟩
  · exact x.toInCall.ns.at' fun o e => hk _ o (Ne.symm hL) e
  · exact fun b o e => hk b o (fun e' => by rw [e', h0] at e; cases e) (x.toInCall.keep b o e)
  · obtain ⟨oc, h1, h2⟩ := x.cell n c e
    exact ⟨oc, hk c oc (hc n c e) h1, h2⟩

theorem nodup_ne {ns : List Str} (h : ns.Nodup) {i j : Nat} {x y : Str} (hi : ns[i]? = some x) (hj : ns[j]? = some y) (hij : i ≠ j) : x ≠ y := by
  rintro rfl
  exact hij ((List.getElem?_inj (List.getElem?_eq_some_iff.mp hi).1 h).mp (hi.trans hj.symm))
theorem env_dict {h : Heap} {a : Addr} {m : Str → Option Value} (x : h.Ns a m) : ∀ o, h.get? a = some o → EnvObj o := by
  obtain ⟨o, es, ep, ho, hd, _⟩ := x
  intro o' e
  rw [ho] at e; cases e
  exact .inl ⟨es, ep, hd⟩
theorem env_cell {h : Heap} {a : Addr} {v : Option Value} (x : h.IsCell a v) : ∀ o, h.get? a = some o → EnvObj o := by
  obtain ⟨o, ho, hd⟩ := x
  intro o' e
  rw [ho] at e; cases e
  exact .inr ⟨v, hd⟩

/-- a store -/
theorem Fr0.store {M : Model} {A : Around} {E : Value → Shared → Prop} (f : Fr0 g ns gs env ownc own s₀ s ρ) {i : Nat} {x : Str} {v : Value} {d : D} (hx : ns[i]? = some x) (hd : Hd own s.heap v d) (hph : Ph own ownc env s₀ (ρ.set i d)) {Q : Unit → Shared → Prop}
    (hQ : ∀ s', Fr g ns gs env ownc own s₀ s' (ρ.set i d) → Pr own own s s' → s.toks ≤ s'.toks → (∀ b m, b ≠ env.locals → s.heap.Ns b m → s'.heap.Ns b m) → Q () s') : wpAny M A (storeName env x v) Q E s := by
  obtain ⟨m, cm, X, hv⟩ := f.fr
  have hmem : x ∈ ns := List.mem_of_getElem? hx
  -- the tail: the object at a turned, the variables are these
  have fin : ∀ (a : Addr) (h' : Heap) (tk : Nat) (m' cm' : Str → Option Value), Heap.SameBut a s.heap h' → (∀ o, s.heap.get? a = some o → EnvObj o) → s.toks ≤ tk → (∃ o, s.heap.get? a = some o) → (∃ o, h'.get? a = some o) → InCallC s₀ env.locals m' env.cells cm' { s with heap := h', toks := tk } →
      (((env.kindOf x = some .local ∧ m' x = some v) ∨ (env.kindOf x = some .cell ∧ cm' x = some v)) ∧ ∀ y, y ≠ x → ∀ u, ((env.kindOf y = some .local ∧ m y = some u) ∨ (env.kindOf y = some .cell ∧ cm y = some u)) → ((env.kindOf y = some .local ∧ m' y = some u) ∨ (env.kindOf y = some .cell ∧ cm' y = some u))) →
      (∀ b m, b ≠ env.locals → s.heap.Ns b m → h'.Ns b m) → Q () { s with heap := h', toks := tk } := by
    intro a h' tk m' cm' hs hen ht hal hal' X' hvar hns
    have hk : ∀ b o, ¬ EnvObj o → s.heap.get? b = some o → h'.get? b = some o := fun b o hn e => hs.extBut b o (fun e' => hn (hen o (e' ▸ e))) e
    have hki : ∀ b o, ¬ Inert o → s.heap.get? b = some o → h'.get? b = some o := fun b o hn e => hk b o (fun h => hn (.inl h)) e
    refine hQ _ ⟨⟨f.kind, f.kinds, f.cells, f.globals, f.builtins, f.nodebug, f.nodup, by rw [f.len, List.length_set], f.stored, f.ok, f.toks0, Nat.le_trans f.toks ht, f.alive0, fun b e => ?_, m', cm', X', fun j y d' h1 h2 h3 => ?_⟩, hph⟩ (fun b o hn ho e => ⟨hk b o hn e, ho⟩) ht hns
    · obtain ⟨o, ho⟩ := f.alive b e
      by_cases hb : b = a
      · subst hb; exact hal'
      · exact ⟨o, hs.extBut b o hb ho⟩
    · by_cases hij : i = j
      · subst hij
        rw [hx] at h1; cases h1
        have hlt : i < ρ.length := by
          have := (List.getElem?_eq_some_iff.mp h2).1
          simpa using this
        rw [List.getElem?_set_self hlt] at h2
        cases h2
        exact ⟨v, hvar.1, hd.inert hki⟩
      · rw [List.getElem?_set_ne hij] at h2
        obtain ⟨u, hu, hdu⟩ := hv j y d' h1 h2 h3
        exact ⟨u, hvar.2 y (nodup_ne f.nodup h1 hx (Ne.symm hij)) u hu, hdu.inert hki⟩
  rcases f.stored x hmem with hl | hl
  · refine wpAny_storeName_local hl X.toInCall.ns (fun h' hn' hs' => ?_) (by rw [f.kind]; rfl)
    have X' : InCallC s₀ env.locals (fun y => if y = x then some v else m y) env.cells cm { s with heap := h', toks := s.toks + 1 } := by
      refine ⟨⟨?_, hn', fun b o e => ?_, X.toInCall.fresh⟩, fun k c hc => ?_, X.apart, X.above⟩
      · obtain ⟨h₁, tk, rfl⟩ := X.toInCall.same; exact ⟨h', _, rfl⟩
      · exact hs'.extBut b o (Nat.ne_of_lt (Nat.lt_of_lt_of_le (Heap.lt_size e) X.toInCall.fresh)) (X.toInCall.keep b o e)
      · exact (X.cell k c hc).sameBut hs' (Nat.ne_of_gt (X.above k c (mem_of_lookup hc)))
    refine fin env.locals h' (s.toks + 1) _ cm hs' (env_dict X.toInCall.ns) (Nat.le_succ _) (let ⟨o, _, _, ho, _⟩ := X.toInCall.ns; ⟨o, ho⟩) (let ⟨o, _, _, ho, _⟩ := hn'; ⟨o, ho⟩) X' ⟨.inl ⟨hl, by simp⟩, fun y hy u hu => ?_⟩ fun b m2 hb hm2 => hm2.sameBut hs' hb
    rcases hu with ⟨h1, h2⟩ | h
    · exact .inl ⟨h1, by simp [hy, h2]⟩
    · exact .inr h
  · obtain ⟨c, hc⟩ := f.cells x (.inl hl)
    have hLc := X.above x c (mem_of_lookup hc)
    refine wpAny_storeName_cell f.kind hl hc (X.cell x c hc) fun h' hc' hs' => ?_
    have X' : InCallC s₀ env.locals m env.cells (fun y => if y = x then some v else cm y) { s with heap := h' } := by
      refine ⟨⟨?_, X.toInCall.ns.sameBut hs' (Nat.ne_of_lt hLc), fun b o e => ?_, X.toInCall.fresh⟩, fun k c' hk' => ?_, X.apart, X.above⟩
      · obtain ⟨h₁, tk, rfl⟩ := X.toInCall.same; exact ⟨h', _, rfl⟩
      · exact hs'.extBut b o (Nat.ne_of_lt (Nat.lt_trans (Nat.lt_of_lt_of_le (Heap.lt_size e) X.toInCall.fresh) hLc)) (X.toInCall.keep b o e)
      · by_cases hkn : k = x
        · subst hkn
          rw [hc] at hk'; cases hk'
          simpa using hc'
        · rw [if_neg hkn]
          exact (X.cell k c' hk').sameBut hs' fun e => hkn (name_of_addr X.apart (mem_of_lookup hk') (e ▸ mem_of_lookup hc))
    refine fin c h' s.toks m _ hs' (env_cell (X.cell x c hc)) (Nat.le_refl _) (let ⟨o, ho, _⟩ := X.cell x c hc; ⟨o, ho⟩) (let ⟨o, ho, _⟩ := hc'; ⟨o, ho⟩) X' ⟨.inr ⟨hl, by simp⟩, fun y hy u hu => ?_⟩ fun b m2 hb hm2 => hm2.sameBut hs' fun e => ?_
    · rcases hu with h | ⟨h1, h2⟩
      · exact .inl h
      · exact .inr ⟨h1, by simp [hy, h2]⟩
    · subst e
      obtain ⟨o, ho, hd'⟩ := X.cell x b hc
      obtain ⟨o', es, ep, ho', hd'', _⟩ := hm2
      rw [ho] at ho'; cases ho'; rw [hd'] at hd''; cases hd''
end
end Mine

end
section
open PySem PySem.W PyProof.Rows
set_option Elab.async false
set_option maxRecDepth 100000
namespace Mine

noncomputable def Go (g : Ad) (ns : List Str) (gs : Gs) (env : Env) (ownc : Option Addr) (s₀ : Shared) (own : Option Addr) (s : Shared) (ρ' : List D) (s' : Shared) : Prop :=
  ∃ own', Fr g ns gs env ownc own' s₀ s' ρ' ∧ Pr own own' s s' ∧ s.toks ≤ s'.toks
noncomputable def Out (g : Ad) (ns : List Str) (gs : Gs) (env : Env) (ownc : Option Addr) (s₀ : Shared) (own : Option Addr) (s : Shared) : Fl → List D → Flow → Shared → Prop
  | .next, ρ', fl, s' => fl = .next ∧ Go g ns gs env ownc s₀ own s ρ' s'
  | .brk, ρ', fl, s' => fl = .brk ∧ Go g ns gs env ownc s₀ own s ρ' s'
  | .cont, ρ', fl, s' => fl = .cont ∧ Go g ns gs env ownc s₀ own s ρ' s'
  | .ret d, _, fl, s' => ∃ v, fl = .ret v ∧ Rp ownc s'.heap v d ∧ Keeps s₀ s' ∧ s₀.toks ≤ s'.toks

section
variable {prog : Program} {w : World} {g : Ad} {Φ : Fns} {L : Nat} {n : Nat} {ns : List Str} {gs : Gs} {env : Env} {ownc own : Option Addr} {s₀ s s' : Shared} {ρ : List D} {A : Around}
theorem Go.after {own1 : Option Addr} {ρ' : List D} {s1 : Shared} (p : Pr own own1 s s1) (t : s.toks ≤ s1.toks) (h : Go g ns gs env ownc s₀ own1 s1 ρ' s') : Go g ns gs env ownc s₀ own s ρ' s' := by
  obtain ⟨o, f, p', t'⟩ := h
  exact ⟨o, f, p.trans p', Nat.le_trans t t'⟩
theorem Out.after {own1 : Option Addr} {f : Fl} {fl : Flow} {ρ' : List D} {s1 : Shared} (p : Pr own own1 s s1) (t : s.toks ≤ s1.toks) (h : Out g ns gs env ownc s₀ own1 s1 f ρ' fl s') : Out g ns gs env ownc s₀ own s f ρ' fl s' := by
  cases f with
  | next => exact ⟨h.1, h.2.after p t⟩
  | brk => exact ⟨h.1, h.2.after p t⟩
  | cont => exact ⟨h.1, h.2.after p t⟩
  | ret d => exact h

theorem all_set {α : Type} (p : α → Bool) : ∀ (l : List α) (i : Nat) (d : α), p d = true → (∀ x, l[i]? = some x → p x = true) → (l.set i d).all p = l.all p
  | [], _, _, _, _ => rfl
  | a :: l, 0, d, hd, h => by simp [List.set, hd, h a rfl]
  | a :: l, i + 1, d, hd, h => by simp only [List.set, List.all_cons]; rw [all_set p l i d hd (fun x hx => h x (by simpa using hx))]
theorem clean_set {i : Nat} {d : D} (hf : freeAt ρ i = true) (hd : ownish d = false) : clean (ρ.set i d) = clean ρ := by
  unfold clean
  refine all_set _ ρ i d (by rw [hd]; rfl) fun x hx => ?_
  unfold freeAt at hf
  rw [hx] at hf
  exact hf
theorem ph_set {i : Nat} {d : D} (h : Ph own ownc env s₀ ρ) (hf : freeAt ρ i = true) (hd : ownish d = false) : Ph own ownc env s₀ (ρ.set i d) := by
  unfold Ph
  rw [clean_set hf hd]
  rcases h with h | ⟨h1, a, h2, h3, h4, h5, k, h6⟩
  · exact .inl h
  · refine .inr ⟨h1, a, h2, h3, h4, h5, k, fun j d' hj hd' => ?_⟩
    by_cases e : i = j
    · subst e
      by_cases hl : i < ρ.length
      · rw [List.getElem?_set_self hl] at hj
        cases hj
        cases d <;> first | (cases hd'; done) | (cases hd; done)
      · rw [List.getElem?_eq_none (by simpa using Nat.not_lt.mp hl)] at hj
        cases hj
    · rw [List.getElem?_set_ne e] at hj
      exact h6 j d' hj hd'
theorem rp_ownish {h : Heap} {v : Value} {d : D} (r : Rp own h v d) : ownish d = false := by cases r <;> rfl
theorem sc_free {i : Nat} {c : Sc} (h : ρ[i]? = some (.sc c)) : freeAt ρ i = true := by unfold freeAt; rw [h]; rfl

/-- a datum is stored -/
theorem store_rp {i : Nat} {x : Str} {v : Value} {d : D} {Q : Unit → Shared → Prop} (f : Fr g ns gs env ownc own s₀ s ρ) (hi : idxOf ns x = some i) (hf : freeAt ρ i = true) (r : Rp own s.heap v d)
    (hQ : ∀ s', Fr g ns gs env ownc own s₀ s' (ρ.set i d) → Pr own own s s' → s.toks ≤ s'.toks → (∀ b m, b ≠ env.locals → s.heap.Ns b m → s'.heap.Ns b m) → Q () s') : wpX (model prog w) A (storeName env x v) Q s :=
  .of (f.store (idxOf_at hi) (hd_of r) (ph_set f.ph hf (rp_ownish r)) hQ)

theorem swaps_comp {elt : Expr} {gens : List Comprehension} {sc : Scope} {p xp : Pos} {x : Str} {l : Nat} :
    ∃ b, swapsWith (.ListComp elt gens sc p) (some (.Name x xp)) l env = pure b := ⟨_, rfl⟩
theorem case_asg {x : Str} {xp pos : Pos} {e : Expr} {i : Nat} {d : D} (hΦ : FnsOk prog w g Φ L) (hA : AOk A (n + L)) (f : Fr g ns gs env ownc own s₀ s ρ) (hi : idxOf ns x = some i) (hf : freeAt ρ i = true) (h : ev Φ (tr n ns gs e) ρ = some d) :
    wpX (model prog w) A (PySem.exec (.Assign [.Name x xp] e pos) env) (Out g ns gs env ownc s₀ own s .next (ρ.set i d)) s := by
  have ih := (ev_sound hΦ n).1
  have plain : swapsWith e (some (.Name x xp)) pos.line env = pure false → wpX (model prog w) A (PySem.exec (.Assign [.Name x xp] e pos) env) (Out g ns gs env ownc s₀ own s .next (ρ.set i d)) s := by
    intro hs
    refine wpX_Assign_Name hs (wpX_mono (wpX_toks (ih ns gs e env own s ρ d A hA f.vw h)) ?_)
    rintro v s1 ⟨ht, r, k⟩
    exact store_rp (f.next k ht) hi hf r fun s2 f2 p2 t2 _ => ⟨rfl, own, f2, (Pr.of_keeps k).trans p2, Nat.le_trans ht t2⟩
  by_cases hc : ∃ elt gens sc p, e = .ListComp elt gens sc p
  · obtain ⟨elt, gens, sc, p, rfl⟩ := hc
    obtain ⟨b, hb⟩ := swaps_comp (env := env) (elt := elt) (gens := gens) (sc := sc) (p := p) (xp := xp) (x := x) (l := pos.line)
    cases b with
    | false => exact plain hb
    | true =>
      cases n with
      | zero => exact fail_no h
      | succ n =>
        rw [exec_Assign_Name_used _ _ _ _ hb]
        have ih := (ev_sound hΦ n).1
        have it := (ev_sound hΦ n).2.1
        have key := comp_any (use := some (assign (.Name x xp) env)) (Q := fun _ s' => Out g ns gs env ownc s₀ own s .next (ρ.set i d) .next s') (elt := elt) (gens := gens) (sc := sc) (pos := p) (p0 := firstIterPos gens p) ih it hA.down f.vw h (by
          rintro r rfl v s1 C ps ht hC ⟨m, hm⟩ hne
          have f1 := f.next ps.2 ht
          have hCL : C ≠ env.locals := by
            rintro rfl
            obtain ⟨m', cm', X, _⟩ := f.fr
            obtain ⟨o, _, _, ho, _⟩ := X.toInCall.ns
            rw [hC] at ho; cases ho
          have hCc : ∀ n c, env.cells.lookup n = some c → c ≠ C := by
            rintro n c hc rfl
            obtain ⟨m', cm', X, _⟩ := f.fr
            obtain ⟨o, ho, _⟩ := X.cell n c hc
            rw [hC] at ho; cases ho
          refine .of (wpAny_assign_Name (f1.store (idxOf_at hi) (hd_of ps.1) (ph_set f1.ph hf rfl) fun s2 f2 p2 t2 hns => ⟨⟨m, hns C m hCL hm⟩, fun h' hs' => ⟨rfl, own, ?_, ?_, Nat.le_trans ht t2⟩⟩))
          · refine f2.turn (tk := s2.toks) (none_of (keeps_ext f.keep) hC) hCL hCc (fun o ho => .inl (env_dict (hns C m hCL hm) o ho)) (fun e => ?_) hs'.extBut (Nat.le_refl _)
            obtain ⟨o, ho⟩ := f.alive C e
            rw [hC] at ho; cases ho
          · refine ((Pr.of_keeps ps.2).trans p2).trans fun b o hn ho e => ⟨hs'.extBut b o (fun e' => ?_) e, ho⟩
            exact hn (env_dict (hns C m hCL hm) o (e' ▸ e)))
        refine wpX_stand (wpX_bind ?_)
        show wpX _ A (do let _ ← comprehension (.ListComp elt gens sc p) sc env (firstIterPos gens p) (newList []) (firstAsync gens) (firstIter gens env) (some (assign (.Name x xp) env))) _ s
        exact wpX_bind (wpX_mono key fun _ s' hq => wpX_pure (wpX_pure hq))
  · refine plain ?_
    cases e <;> first
      | rfl
      | exact absurd ⟨_, _, _, _, rfl⟩ hc
      | (cases n <;> exact fail_no h)

theorem inplace_sound {x y d : D} {v u : Value} {E : Value → Shared → Prop} (h : augop x y = some d) (hx : Rp own s.heap v x) (hy : Rp own s.heap u y) : wpAny (model prog w) A (inplaceOp .Add v u) (Ps own s d) E s := by
  obtain ⟨a, ha, h1⟩ := bindSome h
  obtain ⟨b, hb, h2⟩ := bindSome h1
  clear h1 h
  cases asSc_is ha
  cases asSc_is hb
  cases a with
  | int i =>
    obtain ⟨j, hj, rfl⟩ := Option.map_eq_some_iff.mp h2
    cases scInt_some hj
    obtain ⟨t, rfl⟩ := hx.int; obtain ⟨t', rfl⟩ := hy.int
    exact wpAny_iadd_int ⟨.mkInt, keeps_toks s _⟩
  | str i =>
    obtain ⟨j, hj, h3⟩ := bindSome h2
    cases scStr_some hj
    obtain ⟨hz, h4⟩ := ite_some h3
    cases h4
    obtain ⟨t, rfl⟩ := hx.str; obtain ⟨t', rfl⟩ := hy.str
    have := size_ok hz
    refine PyProof.Rows.iadd_str (fun t' tk => ⟨?_, keeps_toks s _⟩) (by rw [str_len, str_len]; exact size_line this)
    rw [str_app]; exact .mkStr
  | _ => exact nope h2
theorem augop_free {x y d : D} (h : augop x y = some d) : ∃ c, x = .sc c := by
  obtain ⟨a, ha, h⟩ := bindSome h
  exact ⟨a, asSc_is ha⟩
theorem case_aug {x : Str} {xp pos : Pos} {e : Expr} {i : Nat} {f : Fl} {ρ' : List D} (hΦ : FnsOk prog w g Φ L) (hA : AOk A (n + L)) (fr : Fr g ns gs env ownc own s₀ s ρ) (hi : idxOf ns x = some i) (h : Mine.exec Φ (.aug i (tr n ns gs e)) ρ = some (f, ρ')) :
    wpX (model prog w) A (PySem.exec (.AugAssign (.Name x xp) .Add e pos) env) (Out g ns gs env ownc s₀ own s f ρ') s := by
  have ih := (ev_sound hΦ n).1
  obtain ⟨a, ha, h⟩ := bindSome h
  obtain ⟨y, hy, h⟩ := bindSome h
  obtain ⟨d, hd, h⟩ := Option.map_eq_some_iff.mp h
  cases h
  obtain ⟨a0, ha0, ha⟩ := bindSome ha
  have ha0 : ρ[i]? = some a0 := ha0
  obtain ⟨c, rfl⟩ := augop_free hd
  obtain ⟨v0, l, r0⟩ := fr.vw.vars i x a0 _ (idxOf_at hi) ha0 ha
  have hfree : freeAt ρ i = true := by
    cases a0 <;> simp only [readable, Option.some.injEq, reduceCtorEq] at ha
    exact sc_free ha0
  refine wpX_AugAssign_Name (.of (l.load fr.kind (wpX_mono (wpX_toks (ih ns gs e env own s ρ y A hA fr.vw hy)) ?_)))
  rintro u s1 ⟨t1, r1, k1⟩
  refine wpX_mono (wpX_toks (.of (inplace_sound hd (r0.ext (keeps_ext k1)) r1))) ?_
  rintro z s2 ⟨t2, r2, k2⟩
  exact store_rp ((fr.next k1 t1).next k2 t2) hi hfree r2 fun s3 f3 p3 t3 _ => ⟨rfl, own, f3, ((Pr.of_keeps k1).trans (Pr.of_keeps k2)).trans p3, Nat.le_trans t1 (Nat.le_trans t2 t3)⟩

/-! the object under way -/
theorem ph_own {i : Nat} {d : D} {a : Addr} (hcl : clean ρ = true) (hlen : i < ρ.length) (hd : ownish d = true) (h0 : s₀.heap.get? a = none) (hL : a ≠ env.locals) (hc : ∀ n c, env.cells.lookup n = some c → c ≠ a) : Ph (some a) ownc env s₀ (ρ.set i d) := by
  refine .inr ⟨?_, a, rfl, h0, hL, hc, i, fun j d' hj hd' => ?_⟩
  rotate_left
  · by_cases e : i = j
    · exact e.symm
    · rw [List.getElem?_set_ne e] at hj
      have := List.all_eq_true.mp hcl d' (List.mem_of_getElem? hj)
      cases d' <;> first | (cases hd'; done) | (cases this; done)
  unfold clean
  rw [Bool.eq_false_iff]
  intro h
  have := List.all_eq_true.mp h d (List.mem_iff_getElem?.mpr ⟨i, List.getElem?_set_self hlen⟩)
  rw [hd] at this
  cases this
/-- a new object under way -/
theorem Fr.fresh {a : Addr} (f : Fr g ns gs env ownc own s₀ s ρ) (hcl : clean ρ = true) (k : Keeps s s') (ht : s.toks ≤ s'.toks) (hn : s.heap.get? a = none) (hal : ∃ o, s'.heap.get? a = some o) :
    Fr0 g ns gs env ownc (some a) s₀ s' ρ ∧ a ≠ env.locals ∧ (∀ n c, env.cells.lookup n = some c → c ≠ a) ∧ s₀.heap.get? a = none := by
  obtain ⟨m, cm, x, hv⟩ := f.fr
  refine ⟨⟨f.kind, f.kinds, f.cells, f.globals, f.builtins, f.nodebug, f.nodup, f.len, f.stored, f.ok, f.toks0, Nat.le_trans f.toks ht, f.alive0, (by rintro _ ⟨⟩; exact hal), m, cm, ?_, fun i y d h1 h2 h3 => ?_⟩, ?_, ?_, none_of (keeps_ext f.keep) hn⟩
  · obtain ⟨h', tk, rfl, hk⟩ := k
    exact x.kept hk
  · obtain ⟨v, hk, hd⟩ := hv i y d h1 h2 h3
    have hno : ownish d = false := by
      have := List.all_eq_true.mp hcl d (List.mem_of_getElem? h2)
      simpa using this
    refine ⟨v, hk, ?_⟩
    have hr : Rp own s.heap v d := by
      cases d <;> first | exact absurd rfl h3 | exact hd | cases hno
    exact hd_of ((hr.fresh hn).ext (keeps_ext k))
  · rintro rfl
    obtain ⟨o, _, _, ho, _⟩ := x.toInCall.ns
    rw [hn] at ho; cases ho
  · rintro n c hc rfl
    obtain ⟨o, ho, _⟩ := x.cell n c hc
    rw [hn] at ho; cases ho
/-- the new object is stored -/
theorem store_own {i : Nat} {x : Str} {a : Addr} {d : D} {Q : Unit → Shared → Prop} (f : Fr g ns gs env ownc own s₀ s ρ) (hcl : clean ρ = true) (hi : idxOf ns x = some i) (hlen : i < ρ.length) (k : Keeps s s') (ht : s.toks ≤ s'.toks) (hn : s.heap.get? a = none) (hal : ∃ o, s'.heap.get? a = some o)
    (hd : ownish d = true) (hh : Hd (some a) s'.heap (.ref a) d) (hQ : ∀ s2, Go g ns gs env ownc s₀ own s (ρ.set i d) s2 → Q () s2) : wpX (model prog w) A (storeName env x (.ref a)) Q s' := by
  obtain ⟨f', hL, hc, h0⟩ := f.fresh hcl k ht hn hal
  refine .of (f'.store (idxOf_at hi) hh (ph_own hcl hlen hd h0 hL hc) fun s2 f2 p2 t2 _ => hQ s2 ⟨some a, f2, ?_, Nat.le_trans ht t2⟩)
  refine Pr.trans (o2 := some a) (b := s') (fun b o hb ho e => ⟨keeps_ext k b o e, ?_⟩) p2
  rintro ⟨⟩
  rw [hn] at e; cases e
theorem case_newOwn {x : Str} {xp pos lp : Pos} {i : Nat} {f : Fl} {ρ' : List D} (fr : Fr g ns gs env ownc own s₀ s ρ) (hi : idxOf ns x = some i) (h : Mine.exec Φ (.newOwn i) ρ = some (f, ρ')) :
    wpX (model prog w) A (PySem.exec (.Assign [.Name x xp] (.List [] lp) pos) env) (Out g ns gs env ownc s₀ own s f ρ') s := by
  obtain ⟨hcl, h⟩ := ite_some h
  cases h
  have hlt : i < ρ.length := fr.len ▸ (List.getElem?_eq_some_iff.mp (idxOf_at hi)).1
  refine wpX_Assign_Name rfl (wpX_List (wpX_items_nil ⟨Nat.zero_le _, ?_⟩))
  have hob : (s.heap.push { cls := .type "list", data := .seq ([] : List Value).toArray }).get? s.heap.objs.size = some (lsObj [] 0) := Heap.get?_push_size _ rfl
  exact store_own (d := .own []) fr hcl hi hlt (keeps_of (k := s.toks) (Ext.push _ _)) (Nat.le_refl _) (fresh_none (Nat.le_refl _)) ⟨_, hob⟩ rfl ⟨_, [], rfl, rfl, ⟨0, hob⟩, .nil⟩ fun s2 h2 => ⟨rfl, h2⟩
theorem case_newBA {x : Str} {xp np pos cp : Pos} {e : Expr} {i : Nat} {f : Fl} {ρ' : List D} (hΦ : FnsOk prog w g Φ L) (hA : AOk A (n + L)) (fr : Fr g ns gs env ownc own s₀ s ρ) (hi : idxOf ns x = some i) (hG : isG gs "bytearray" = true) (h : Mine.exec Φ (.newBA i (tr n ns gs e)) ρ = some (f, ρ')) :
    wpX (model prog w) A (PySem.exec (.Assign [.Name x xp] (.Call (.Name "bytearray" np) [e] [] cp) pos) env) (Out g ns gs env ownc s₀ own s f ρ') s := by
  have ih := (ev_sound hΦ n).1
  obtain ⟨y, hy, h⟩ := bindSome h
  obtain ⟨m, hm, h⟩ := bindSome h
  obtain ⟨⟨h0, h1, hcl⟩, h⟩ := ite_some h
  cases h
  cases D.int_some hm
  have hlt : i < ρ.length := fr.len ▸ (List.getElem?_eq_some_iff.mp (idxOf_at hi)).1
  refine wpX_Assign_Name rfl ?_
  refine wpX_Call_ofName ?_
  obtain ⟨mg, mb, mp, n1, n2, n3, ⟨a1, a2, a3, a4, a5, a6⟩, ⟨b1, b2, b3, b4, b5, b6⟩, _⟩ := fr.vw.ok.at_
  refine name_builtin fr.vw hG (by decide) ?_ ⟨mg, mb, n1, n2, a6, b6⟩
  refine callWithX_type (plain_args1 (fail_star hy)) (evalArgs_of (fail_star hy) (wpX_items_cons (wpX_mono (wpX_toks (ih ns gs e env own s ρ _ A hA fr.vw hy)) ?_) (star_of (fail_star hy))))
  rintro v s1 ⟨t1, r1, k1⟩
  obtain ⟨t, rfl⟩ := r1.int
  refine wpX_items_nil (call_ba h0 h1 fun h' ho hk => ?_)
  have k2 : Keeps s1 { s1 with heap := h' } := ⟨h', s1.toks, rfl, hk⟩
  exact store_own (d := .ba _) fr hcl hi hlt (keeps_trans k1 k2) t1 (none_of (keeps_ext k1) (fresh_none (Nat.le_refl _))) ⟨_, ho⟩ rfl ⟨_, 0, rfl, rfl, ho⟩ fun s2 h2 => ⟨rfl, h2⟩
end
end Mine

end
section
open PySem PySem.W PyProof.Rows
set_option Elab.async false
set_option maxRecDepth 100000
namespace Mine
theorem assign_Sub (o i : Expr) (pos : Pos) (env : Env) (v : Value) : assign (.Subscript o i pos) env v = (holding [v] (eval o env) >>= fun ov => holding [v, ov] (eval i env) >>= fun iv => standAt pos >>= fun _ =>
    holding [v, ov, iv] (setItem ov iv v) >>= fun _ => release (match i with | .Slice _ _ none _ => [iv, v, ov] | _ => [v, ov, iv]) []) := rfl
section
variable {M : Model} {A : Around} {s : Shared} {env : Env}
theorem wpX_Expr {e : Expr} {pos : Pos} {Q : Flow → Shared → Prop} (h : wpX M A (eval e env) (fun v s' => v = .none ∧ Q .next s') s) (hi : interactive env = false) (hs : swapsWith e none pos.line env = pure false) :
    wpX M A (PySem.exec (.Expr e pos) env) Q s := by
  rw [exec_Expr env e pos hi hs]
  refine wpX_stand (wpX_bind (wpX_mono h ?_))
  rintro v s' ⟨rfl, hq⟩
  rw [dropValue_plain (by intro a e; cases e)]
  exact wpX_pure hq
theorem callWithX_bm {pos : Pos} {a b : Addr} {first : List Value} {args : List (Bool × Sem Value)} {Q : Value → Shared → Prop}
    (h : wpX M A (evalArgs (.ref b) true args []) (fun x s₁ => s₁.heap.get? b = some (bmObj a) ∧ wpX M A (call (.ref b) (first ++ x.pos) x.kw) Q s₁) s) :
    wpX M A (callWith pos (.ref b) first args []) Q s := by
  unfold callWith
  refine wpX_bind (wpX_holding (wpX_mono h fun x s₁ h₁ => wpX_stand ?_))
  cases hs : args.any (·.1) <;> simp only [List.any_nil, Bool.or_false] <;>
    refine wpX_bind (m := keeperOf (.ref b)) ?_ <;> unfold keeperOf <;>
    refine wpX_leaf (wpAny_load h₁.1 ?_) <;> refine .of (wpAny_of_eq (a := Keeper.machine) (by first | rfl | kernel_rfl) ?_)
  all_goals
    repeat' split
  all_goals first
      | exact tailX h₁.2
      | exact tailX (wpX_operate h₁.2)
      | (refine tailX ?_; unfold callMarked; exact wpX_keep h₁.2)
      | contradiction
end
section
variable {prog : Program} {w : World} {g : Ad} {Φ : Fns} {L : Nat} {n : Nat} {ns : List Str} {gs : Gs} {env : Env} {ownc own : Option Addr} {s₀ s s' : Shared} {ρ : List D} {A : Around}
theorem Fr0.var (f : Fr0 g ns gs env ownc own s₀ s ρ) {i : Nat} {x : Str} {d : D} (h1 : ns[i]? = some x) (h2 : ρ[i]? = some d) (hne : d ≠ .undef) : ∃ v, Ld env s.heap x v ∧ Hd own s.heap v d := by
  obtain ⟨m, cm, x', hv⟩ := f.fr
  obtain ⟨v, hk, hd⟩ := hv i x d h1 h2 hne
  refine ⟨v, ?_, hd⟩
  rcases hk with ⟨hk, hm⟩ | ⟨hk, hm⟩
  · exact .inl ⟨hk, m, x'.toInCall.ns, hm⟩
  · obtain ⟨c, hc⟩ := f.cells x (.inl hk)
    exact .inr ⟨.inl hk, c, hc, hm ▸ x'.cell x c hc⟩
theorem Fr0.noDebug (f : Fr0 g ns gs env ownc own s₀ s ρ) {i : Nat} {x : Str} (h1 : ns[i]? = some x) : (x == ("__debug__" : Str)) = false := f.nodebug x (List.mem_of_getElem? h1)
theorem Fr0.quietTop (f : Fr0 g ns gs env ownc own s₀ s ρ) : interactive env = false := by unfold interactive; rw [f.kind]; rfl
theorem nodup_at {i j : Nat} {l : List D} (k : Nat) (h : ∀ (j : Nat) d, l[j]? = some d → isOB d = true → j = k) {d d' : D} (hi : l[i]? = some d) (hd : isOB d = true) (hj : l[j]? = some d') (hij : i ≠ j) : isOB d' = false := by
  cases e : isOB d' with
  | false => rfl
  | true => exact absurd ((h i d hi hd).trans (h j d' hj e).symm) hij
/-- the object under way turns -/
theorem Fr.ownTurn (f : Fr g ns gs env ownc own s₀ s ρ) {i : Nat} {a : Addr} {d0 d' : D} {o : Obj} {h' : Heap} (ho : own = some a) (hi : ρ[i]? = some d0) (h0 : isOB d0 = true) (h1 : isOB d' = true) (hs : ∀ b o, b ≠ a → s.heap.get? b = some o → h'.get? b = some o)
    (hob : s.heap.get? a = some o) (hne : ¬ EnvObj o) (hnb : o.cls ≠ .type "builtin_function_or_method") (hal : ∃ o, h'.get? a = some o) (hd : ∀ v, Hd own s.heap v d0 → Hd own h' v d') :
    Fr g ns gs env ownc own s₀ { s with heap := h' } (ρ.set i d') ∧ Pr own own s { s with heap := h' } := by
  obtain ⟨m, cm, x, hv⟩ := f.fr
  have hcl : clean ρ = false := by
    unfold clean
    rw [Bool.eq_false_iff]
    intro h
    have := List.all_eq_true.mp h d0 (List.mem_of_getElem? hi)
    cases d0 <;> first | (cases h0; done) | (cases this; done)
  have hlt : i < ρ.length := (List.getElem?_eq_some_iff.mp hi).1
  rcases f.ph with ⟨h, _⟩ | ⟨_, a', ha', hs0, hL, hc, k, hk⟩
  · rw [hcl] at h; cases h
  rw [ho] at ha'
  cases ha'
  refine ⟨⟨⟨f.kind, f.kinds, f.cells, f.globals, f.builtins, f.nodebug, f.nodup, by rw [f.len, List.length_set], f.stored, f.ok, f.toks0, f.toks, f.alive0, ?_, m, cm, ⟨⟨?_, ?_, ?_, x.toInCall.fresh⟩, fun n c e => ?_, x.apart, x.above⟩, fun j y d e1 e2 e3 => ?_⟩, ?_⟩, fun b o' hb he e => ⟨hs b o' (fun e' => he (e' ▸ ho)) e, he⟩⟩
  · intro b e
    rw [ho] at e; cases e
    exact hal
  · obtain ⟨h₁, t₁, rfl⟩ := x.toInCall.same; exact ⟨h', _, rfl⟩
  · exact x.toInCall.ns.at' fun o e => hs _ o (Ne.symm hL) e
  · exact fun b o e => hs b o (fun e' => by rw [e', hs0] at e; cases e) (x.toInCall.keep b o e)
  · obtain ⟨oc, h1, h2⟩ := x.cell n c e
    exact ⟨oc, hs c oc (hc n c e) h1, h2⟩
  · by_cases hij : i = j
    · subst hij
      rw [List.getElem?_set_self hlt] at e2
      cases e2
      obtain ⟨v, hk, hdv⟩ := hv i y d0 e1 hi (by rintro rfl; cases h0)
      exact ⟨v, hk, hd v hdv⟩
    · rw [List.getElem?_set_ne hij] at e2
      obtain ⟨v, hk', hdv⟩ := hv j y d e1 e2 e3
      have hnob := nodup_at k hk hi h0 e2 hij
      refine ⟨v, hk', ?_⟩
      have rp : ∀ {d : D}, Rp own s.heap v d → Rp own h' v d := by
        intro d r
        cases r with
        | sc e => exact .sc e
        | list p a' n => exact .list (p.at fun o e => hs _ o (fun e' => n (e' ▸ ho)) e) a' n
        | tup p a' n => obtain ⟨o, e, r⟩ := p; exact .tup ⟨o, hs _ o (fun e' => n (e' ▸ ho)) e, r⟩ a' n
        | rng p n => exact .rng (hs _ _ (fun e' => n (e' ▸ ho)) p) n
        | fba p n => exact .fba (hs _ _ (fun e' => n (e' ▸ ho)) p) n
      cases d with
      | undef => trivial
      | own l => cases hnob
      | ba l => cases hnob
      | bm i =>
        obtain ⟨a2, b, q1, q2, q3⟩ := hdv
        refine ⟨a2, b, q1, q2, hs b _ (fun e => ?_) q3⟩
        rw [e, hob] at q3
        cases q3
        exact hnb rfl
      | sc c => exact rp hdv
      | list l => exact rp hdv
      | tup l => exact rp hdv
      | rng a b c => exact rp hdv
      | fba l => exact rp hdv
  · refine .inr ⟨?_, a, ho, hs0, hL, hc, k, fun j d e1 e2 => ?_⟩
    · unfold clean
      rw [Bool.eq_false_iff]
      intro h
      have := List.all_eq_true.mp h d' (List.mem_iff_getElem?.mpr ⟨i, List.getElem?_set_self hlt⟩)
      cases d' <;> first | (cases h1; done) | (cases this; done)
    · by_cases hij : i = j
      · subst hij; exact hk i d0 hi h0
      · rw [List.getElem?_set_ne hij] at e1
        exact hk j d e1 e2
theorem ls_not_env {vs : List Value} {n : Nat} : ¬ EnvObj (lsObj vs n) := fun h => ls_not_inert (.inl h)
theorem ba_not_env {l : List UInt8} {n : Nat} : ¬ EnvObj (baObj l n) := fun h => ba_not_inert (.inl h)
/-- the list under way turns -/
theorem Fr.listTurn (f : Fr g ns gs env ownc own s₀ s ρ) {i : Nat} {a : Addr} {l l' : List Sc} {vs vs' : List Value} {h' : Heap} (ho : own = some a) (hi : ρ[i]? = some (.own l)) (hp : s.heap.PlainList a vs.toArray) (hp' : h'.PlainList a vs'.toArray) (ar : Are vs' l') (hs : Heap.SameBut a s.heap h') :
    Fr g ns gs env ownc own s₀ { s with heap := h' } (ρ.set i (.own l')) ∧ Pr own own s { s with heap := h' } := by
  obtain ⟨k, hk⟩ := hp
  refine f.ownTurn ho hi rfl rfl hs.extBut hk ls_not_env (by intro e; injection e with e; exact absurd e (by decide)) ⟨_, hp'.choose_spec⟩ ?_
  rintro v ⟨a2, vs2, q1, q2, q3, q4⟩
  rw [ho] at q1; cases q1
  exact ⟨a, vs', ho, q2, hp', ar⟩
theorem asSc' {own : Option Addr} {h : Heap} {u : Value} {y : D} {c : Sc} (r : Rp own h u y) (hc : asSc y = some c) : toSc u = some c := by
  rw [asSc_some hc] at r; exact r.toSc

theorem case_app {x : Str} {xp apos cp pos : Pos} {e : Expr} {i : Nat} {f : Fl} {ρ' : List D} (hΦ : FnsOk prog w g Φ L) (hA : AOk A (n + L)) (fr : Fr g ns gs env ownc own s₀ s ρ) (hi : idxOf ns x = some i) (hl : (apos.endLine == cp.line) = true) (h : Mine.exec Φ (.app i (tr n ns gs e)) ρ = some (f, ρ')) :
    wpX (model prog w) A (PySem.exec (.Expr (.Call (.Attribute (.Name x xp) "append" apos) [e] [] cp) pos) env) (Out g ns gs env ownc s₀ own s f ρ') s := by
  have ih := (ev_sound hΦ n).1
  obtain ⟨l, hρ, h⟩ := bindSome h
  have hρ := ownAt_some hρ
  obtain ⟨y, hy, h⟩ := bindSome h
  obtain ⟨c, hc, h⟩ := bindSome h
  obtain ⟨hz, h⟩ := ite_some h
  cases h
  obtain ⟨v, hld, a, vs, ho, rfl, hp, ar⟩ := fr.var (idxOf_at hi) hρ (fun e => nomatch e)
  refine wpX_Expr ?_ fr.quietTop rfl
  have hst := fail_star hy
  refine wpX_Call_method rfl (few1 hst) hl PySem.F.plainAttrs_list PySem.F.slot_list_append PySem.F.type_list_append (.of (wpAny_Name (hld.load fr.kind ⟨hp.isList.typeIs, ?_, ?_⟩) (fr.noDebug (idxOf_at hi))))
  · rintro a' ⟨⟩
    obtain ⟨k, hk⟩ := hp
    exact ⟨_, hk, rfl⟩
  · refine callWithX_builtin (plain_args1 hst) (evalArgs_of hst (wpX_items_cons (wpX_mono (wpX_toks (ih ns gs e env own s ρ y A hA fr.vw hy)) ?_) (star_of hst)))
    rintro u s1 ⟨t1, r1, k1⟩
    refine wpX_items_nil (.of (append_sound (hp.at fun o e => keeps_ext k1 _ _ e) (by rw [ar.length]; exact size_ok hz) fun h' hp' hs' => ⟨rfl, rfl, ?_⟩))
    have f1 := fr.next k1 t1
    obtain ⟨f2, p2⟩ := f1.listTurn ho hρ (hp.at fun o e => keeps_ext k1 _ _ e) hp' (ar.append (.cons (asSc' r1 hc) .nil)) hs'
    exact ⟨own, f2, (Pr.of_keeps k1).trans p2, t1⟩
theorem case_ins0 {x : Str} {xp apos cp kp pos : Pos} {kk : Nat} {e : Expr} {i : Nat} {f : Fl} {ρ' : List D} (hΦ : FnsOk prog w g Φ L) (hA : AOk A (n + L)) (fr : Fr g ns gs env ownc own s₀ s ρ) (hi : idxOf ns x = some i) (hl : (apos.endLine == cp.line) = true) (h : Mine.exec Φ (.ins0 i (tr n ns gs e)) ρ = some (f, ρ')) :
    wpX (model prog w) A (PySem.exec (.Expr (.Call (.Attribute (.Name x xp) "insert" apos) [.Constant (.int 0) kk kp, e] [] cp) pos) env) (Out g ns gs env ownc s₀ own s f ρ') s := by
  have ih := (ev_sound hΦ n).1
  obtain ⟨l, hρ, h⟩ := bindSome h
  have hρ := ownAt_some hρ
  obtain ⟨y, hy, h⟩ := bindSome h
  obtain ⟨c, hc, h⟩ := bindSome h
  obtain ⟨hz, h⟩ := ite_some h
  cases h
  obtain ⟨v, hld, a, vs, ho, rfl, hp, ar⟩ := fr.var (idxOf_at hi) hρ (fun e => nomatch e)
  refine wpX_Expr ?_ fr.quietTop rfl
  have hst := fail_star hy
  have hst0 : ∀ x p, (Expr.Constant (.int 0) kk kp) ≠ .Starred x p := fun _ _ e => nomatch e
  refine wpX_Call_method rfl (by rw [star_of hst0, star_of hst]; rfl) hl PySem.F.plainAttrs_list PySem.F.slot_list_insert PySem.F.type_list_insert (.of (wpAny_Name (hld.load fr.kind ⟨hp.isList.typeIs, ?_, ?_⟩) (fr.noDebug (idxOf_at hi))))
  · rintro a' ⟨⟩
    obtain ⟨k, hk⟩ := hp
    exact ⟨_, hk, rfl⟩
  · refine callWithX_builtin (plain_args2 hst0 hst) (evalArgs_of hst0 (wpX_items_cons (.of (wpAny_Constant_int ?_)) (star_of hst0)))
    have k0 : Keeps s { s with toks := s.toks + 1 } := keeps_toks s _
    refine wpX_items_cons (wpX_mono (wpX_toks (ih ns gs e env own _ ρ y A hA (fr.next k0 (Nat.le_succ _)).vw hy)) ?_) (star_of hst)
    rintro u s1 ⟨t1, r1, k1⟩
    have k1 := keeps_trans k0 k1
    have t1 : s.toks ≤ s1.toks := Nat.le_trans (Nat.le_succ _) t1
    refine wpX_items_nil (.of (insert_sound (hp.at fun o e => keeps_ext k1 _ _ e) (by rw [ar.length]; exact size_ok hz) fun h' hp' hs' => ⟨rfl, rfl, ?_⟩))
    have f1 := fr.next k1 t1
    obtain ⟨f2, p2⟩ := f1.listTurn ho hρ (hp.at fun o e => keeps_ext k1 _ _ e) hp' (.cons (asSc' r1 hc) ar) hs'
    exact ⟨own, f2, (Pr.of_keeps k1).trans p2, t1⟩
theorem case_bmc {x : Str} {xp cp pos : Pos} {e : Expr} {j : Nat} {f : Fl} {ρ' : List D} (hΦ : FnsOk prog w g Φ L) (hA : AOk A (n + L)) (fr : Fr g ns gs env ownc own s₀ s ρ) (hi : idxOf ns x = some j) (h : Mine.exec Φ (.bmc j (tr n ns gs e)) ρ = some (f, ρ')) :
    wpX (model prog w) A (PySem.exec (.Expr (.Call (.Name x xp) [e] [] cp) pos) env) (Out g ns gs env ownc s₀ own s f ρ') s := by
  have ih := (ev_sound hΦ n).1
  obtain ⟨i, hρj, h⟩ := bindSome h
  have hρj := bmAt_some hρj
  obtain ⟨l, hρ, h⟩ := bindSome h
  have hρ := ownAt_some hρ
  obtain ⟨y, hy, h⟩ := bindSome h
  obtain ⟨c, hc, h⟩ := bindSome h
  obtain ⟨hz, h⟩ := ite_some h
  cases h
  obtain ⟨v, hld, a, b, ho, rfl, hb⟩ := fr.var (idxOf_at hi) hρj (fun e => nomatch e)
  have hlt : i < ns.length := fr.len ▸ (List.getElem?_eq_some_iff.mp hρ).1
  obtain ⟨v2, _, a2, vs, ho2, rfl, hp, ar⟩ := fr.var (List.getElem?_eq_getElem hlt) hρ (fun e => nomatch e)
  rw [ho] at ho2; cases ho2
  have hst := fail_star hy
  refine wpX_Expr (wpX_Call_ofName (.of (wpAny_Name (hld.load fr.kind ?_) (fr.noDebug (idxOf_at hi))))) fr.quietTop rfl
  refine callWithX_bm (a := a) (evalArgs_of hst (wpX_items_cons (wpX_mono (wpX_toks (ih ns gs e env own s ρ y A hA fr.vw hy)) ?_) (star_of hst)))
  rintro u s1 ⟨t1, r1, k1⟩
  refine wpX_items_nil ⟨keeps_ext k1 _ _ hb, .of (call_bm (keeps_ext k1 _ _ hb) (hp.at fun o e => keeps_ext k1 _ _ e) (by rw [ar.length]; exact size_ok hz) fun h' hp' hs' => ⟨rfl, rfl, ?_⟩)⟩
  obtain ⟨f2, p2⟩ := (fr.next k1 t1).listTurn ho hρ (hp.at fun o e => keeps_ext k1 _ _ e) hp' (ar.append (.cons (asSc' r1 hc) .nil)) hs'
  exact ⟨own, f2, (Pr.of_keeps k1).trans p2, t1⟩
theorem case_alias {x y : Str} {xp yp ap pos : Pos} {j i : Nat} {f : Fl} {ρ' : List D} (fr : Fr g ns gs env ownc own s₀ s ρ) (hj : idxOf ns y = some j) (hi : idxOf ns x = some i) (h : Mine.exec Φ (.alias j i) ρ = some (f, ρ')) :
    wpX (model prog w) A (PySem.exec (.Assign [.Name y yp] (.Attribute (.Name x xp) "append" ap) pos) env) (Out g ns gs env ownc s₀ own s f ρ') s := by
  obtain ⟨l, hρ, h⟩ := bindSome h
  have hρ := ownAt_some hρ
  obtain ⟨hcond, h⟩ := ite_none h
  cases h
  have hfree : freeAt ρ j = true := by
    cases e : freeAt ρ j with
    | true => rfl
    | false => exact absurd (.inr e) hcond
  obtain ⟨v, hld, a, vs, ho, rfl, hp, ar⟩ := fr.var (idxOf_at hi) hρ (fun e => nomatch e)
  refine wpX_Assign_Name rfl ?_
  rw [arm_eval_Attribute]
  refine wpX_bind (m := eval (.Name x xp) env) (.of (wpAny_Name (hld.load fr.kind ?_) (fr.noDebug (idxOf_at hi))))
  obtain ⟨k, hk⟩ := id hp
  refine wpX_stand (wpX_bind (wpX_holding (.of (getAttr_append hk ?_))))
  refine wpX_eq (a := ()) rfl (wpX_pure ?_)
  have k1 : Keeps s { s with heap := s.heap.push (bmObj a), toks := s.toks + 1 } := keeps_of (Ext.push _ _)
  have hb : (s.heap.push (bmObj a)).get? s.heap.objs.size = some (bmObj a) := Heap.get?_push_size _ rfl
  refine .of ((fr.next k1 (Nat.le_succ _)).store (d := .bm i) (idxOf_at hj) ⟨a, _, ho, rfl, hb⟩ ?_ fun s2 f2 p2 t2 _ => ⟨rfl, own, f2, (Pr.of_keeps k1).trans p2, Nat.le_trans (Nat.le_succ _) t2⟩)
  have hcl : clean ρ = false := by
    unfold clean
    rw [Bool.eq_false_iff]
    intro h
    cases List.all_eq_true.mp h _ (List.mem_of_getElem? hρ)
  rcases fr.ph with ⟨h, _⟩ | ⟨_, a', ha', q1, q2, q3, kk, hkk⟩
  · rw [hcl] at h; cases h
  · have hjl : j < ρ.length := fr.len ▸ (List.getElem?_eq_some_iff.mp (idxOf_at hj)).1
    refine .inr ⟨?_, a', ha', q1, q2, q3, kk, fun j' d e1 e2 => ?_⟩
    · unfold clean
      rw [Bool.eq_false_iff]
      intro h
      cases List.all_eq_true.mp h (.bm i) (List.mem_iff_getElem?.mpr ⟨j, List.getElem?_set_self hjl⟩)
    · by_cases hij : j = j'
      · subst hij
        rw [List.getElem?_set_self hjl] at e1
        cases e1; cases e2
      · rw [List.getElem?_set_ne hij] at e1
        exact hkk j' d e1 e2
theorem case_setBA {x : Str} {xp sp pos : Pos} {ix e : Expr} {i : Nat} {f : Fl} {ρ' : List D} (hΦ : FnsOk prog w g Φ L) (hA : AOk A (n + L)) (fr : Fr g ns gs env ownc own s₀ s ρ) (hi : idxOf ns x = some i) (h : Mine.exec Φ (.setBA i (tr n ns gs ix) (tr n ns gs e)) ρ = some (f, ρ')) :
    wpX (model prog w) A (PySem.exec (.Assign [.Subscript (.Name x xp) ix sp] e pos) env) (Out g ns gs env ownc s₀ own s f ρ') s := by
  have ih := (ev_sound hΦ n).1
  obtain ⟨l, hρ, h⟩ := bindSome h
  have hρ := baAt_some hρ
  obtain ⟨y, hy, h⟩ := bindSome h
  obtain ⟨z, hz, h⟩ := bindSome h
  obtain ⟨j, hj, h⟩ := bindSome h
  obtain ⟨v, hv, h⟩ := bindSome h
  obtain ⟨⟨h0, h1, h2, h3, h4, h5⟩, h⟩ := ite_some h
  cases h
  cases D.int_some hj
  cases D.int_some hv
  obtain ⟨v0, hld, a, k, ho, rfl, hp⟩ := fr.var (idxOf_at hi) hρ (fun e => nomatch e)
  have hsw : swapsWith e (some (.Subscript (.Name x xp) ix sp)) pos.line env = pure false := by
    cases e <;> first | rfl | (cases n <;> exact fail_no hy)
  rw [exec_Assign_Subscript _ _ _ _ _ hsw]
  refine wpX_stand (wpX_bind (wpX_mono (wpX_toks (ih ns gs e env own s ρ _ A hA fr.vw hy)) ?_))
  rintro u s1 ⟨t1, r1, k1⟩
  have f1 := fr.next k1 t1
  refine wpX_bind ?_
  rw [assign_Sub]
  refine wpX_bind (wpX_holding (.of (wpAny_Name ((hld.ext (keeps_ext k1)).load fr.kind ?_) (fr.noDebug (idxOf_at hi)))))
  refine wpX_bind (wpX_holding (wpX_mono (wpX_toks (ih ns gs ix env own s1 ρ _ A hA f1.vw hz)) ?_))
  rintro q s2 ⟨t2, r2, k2⟩
  have f2 := f1.next k2 t2
  obtain ⟨ti, rfl⟩ := r2.int
  obtain ⟨tv, rfl⟩ := r1.int
  have hp2 := keeps_ext k2 _ _ (keeps_ext k1 _ _ hp)
  refine wpX_stand (wpX_bind (wpX_holding (.of (setItem_ba hp2 h0 h1 h2 h3 (small_i h4).2 (size_ok h5) fun h' hb' hsz hs' => ?_))))
  refine .of (wpAny_release (wpX_pure ⟨rfl, ?_⟩))
  obtain ⟨f3, p3⟩ := f2.ownTurn (d' := .ba (l.set j.toNat v.toNat.toUInt8)) (h' := h') ho hρ rfl rfl (fun b o hb e => (hs' b hb).trans e) hp2 ba_not_env (by intro e; injection e with e; exact absurd e (by decide)) ⟨_, hb'⟩ (by
    rintro v ⟨a2, n2, q1, q2, q3⟩
    rw [ho] at q1; cases q1
    exact ⟨a, k, ho, q2, hb'⟩)
  exact ⟨own, f3, ((Pr.of_keeps k1).trans (Pr.of_keeps k2)).trans p3, Nat.le_trans t1 t2⟩
end
end Mine

end
section
open PySem PySem.W PyProof.Rows
set_option Elab.async false
set_option maxRecDepth 100000
namespace Mine
section
variable {prog : Program} {w : World} {g : Ad} {Φ : Fns} {L : Nat} {n : Nat} {ns : List Str} {gs : Gs} {env : Env} {ownc own : Option Addr} {s₀ s s' : Shared} {ρ : List D} {A : Around}
theorem freeze_clean {ρ : List D} (h : clean ρ = true) : ρ.map freeze = ρ := by
  induction ρ with
  | nil => rfl
  | cons d ρ ih =>
    unfold clean at h
    simp only [List.all_cons, Bool.and_eq_true] at h
    rw [List.map_cons, ih h.2]
    congr 1
    cases d <;> first | rfl | (cases h.1; done)
theorem Rp.forget {h : Heap} {v : Value} {d : D} (r : Rp own h v d) : Rp none h v d := by
  cases r with
  | sc e => exact .sc e
  | list p a n => exact .list p a (fun e => nomatch e)
  | tup p a n => exact .tup p a (fun e => nomatch e)
  | rng p n => exact .rng p (fun e => nomatch e)
  | fba p n => exact .fba p (fun e => nomatch e)
theorem Fr0.frozen (f : Fr0 g ns gs env ownc own s₀ s ρ) : Vw g ns gs env none s (ρ.map freeze) := by
  have v := f.vw
  refine ⟨v.kind, v.kinds, v.cells, v.globals, v.builtins, v.ok, v.toks, (fun a e => nomatch e), fun i x d d' h1 h2 h3 => ?_, v.nodebug⟩
  rw [List.getElem?_map] at h2
  obtain ⟨d0, h0, rfl⟩ := Option.map_eq_some_iff.mp h2
  have hne : d0 ≠ .undef := by rintro rfl; cases h3
  obtain ⟨u, hl, hd⟩ := f.var h1 h0 hne
  refine ⟨u, hl, ?_⟩
  cases d0 with
  | undef => exact absurd rfl hne
  | own l =>
    obtain ⟨a, vs, _, rfl, hp, ar⟩ := hd
    cases h3
    exact .list hp ar (fun e => nomatch e)
  | ba l =>
    obtain ⟨a, k, _, rfl, hp⟩ := hd
    cases h3
    exact .fba hp (fun e => nomatch e)
  | bm i => cases h3
  | sc c => obtain ⟨rfl, r⟩ := hd_read hd h3; exact r.forget
  | list c => obtain ⟨rfl, r⟩ := hd_read hd h3; exact r.forget
  | tup c => obtain ⟨rfl, r⟩ := hd_read hd h3; exact r.forget
  | rng a b c => obtain ⟨rfl, r⟩ := hd_read hd h3; exact r.forget
  | fba c => obtain ⟨rfl, r⟩ := hd_read hd h3; exact r.forget
theorem case_ret {e : Expr} {pos : Pos} {f : Fl} {ρ' : List D} (hΦ : FnsOk prog w g Φ L) (hA : AOk A (n + L)) (fr : Fr g ns gs env ownc own s₀ s ρ) (h : Mine.exec Φ (.ret (tr n ns gs e)) ρ = some (f, ρ')) :
    wpX (model prog w) A (PySem.exec (.Return (some e) pos) env) (Out g ns gs env ownc s₀ own s f ρ') s := by
  have ih := (ev_sound hΦ n).1
  obtain ⟨d, hd, h⟩ := bindSome h
  obtain ⟨hc, h⟩ := ite_some h
  cases h
  · skip
    by_cases hcl : clean ρ = true
    · rw [freeze_clean hcl] at hd
      rcases fr.ph with ⟨_, ho⟩ | ⟨h, _⟩
      · subst ho
        refine wpX_Return (wpX_mono (wpX_toks (ih ns gs e env own s ρ d A hA fr.vw hd)) ?_)
        rintro v s1 ⟨t1, r1, k1⟩
        exact ⟨v, rfl, r1, keeps_trans fr.keep k1, Nat.le_trans fr.toks t1⟩
      · rw [hcl] at h; cases h
    · have hs : isSc d = true := by
        rw [Bool.not_eq_true] at hcl
        rw [hcl] at hc
        simpa using hc
      refine wpX_Return (wpX_mono (wpX_toks (ih ns gs e env none s _ d A hA fr.frozen hd)) ?_)
      rintro v s1 ⟨t1, r1, k1⟩
      refine ⟨v, rfl, ?_, keeps_trans fr.keep k1, Nat.le_trans fr.toks t1⟩
      cases d <;> first | (cases hs; done) | skip
      exact .sc r1.toSc
theorem case_retOwn {x : Str} {xp pos : Pos} {i : Nat} {f : Fl} {ρ' : List D} (fr : Fr g ns gs env ownc own s₀ s ρ) (hi : idxOf ns x = some i) (h : Mine.exec Φ (.retOwn i) ρ = some (f, ρ')) :
    wpX (model prog w) A (PySem.exec (.Return (some (.Name x xp)) pos) env) (Out g ns gs env ownc s₀ own s f ρ') s := by
  obtain ⟨l, hρ, h⟩ := Option.map_eq_some_iff.mp h
  have hρ := ownAt_some hρ
  cases h
  obtain ⟨v, hld, a, vs, ho, rfl, hp, ar⟩ := fr.var (idxOf_at hi) hρ (fun e => nomatch e)
  refine wpX_Return (.of (wpAny_Name (hld.load fr.kind ⟨_, rfl, ?_, fr.keep, fr.toks⟩) (fr.noDebug (idxOf_at hi))))
  refine .list hp ar (fun e => ?_)
  rcases fr.ph with ⟨h, _⟩ | ⟨_, a', ha', h0, _⟩
  · cases List.all_eq_true.mp h _ (List.mem_of_getElem? hρ)
  · rw [ho] at ha'; cases ha'
    obtain ⟨o, e'⟩ := fr.alive0 a e
    rw [h0] at e'; cases e'
noncomputable def StOk (prog : Program) (w : World) (g : Ad) (Φ : Fns) (L n : Nat) : Prop := ∀ (cf : Cfg) (st : Stmt) (env : Env) (ownc own : Option Addr) (s₀ s : Shared) (ρ : List D) (f : Fl) (ρ' : List D) (A : Around),
  AOk A (n + L) → Fr g cf.names cf.gs env ownc own s₀ s ρ → Mine.exec Φ (trS n cf st) ρ = some (f, ρ') → wpX (model prog w) A (PySem.exec st env) (Out g cf.names cf.gs env ownc s₀ own s f ρ') s
noncomputable def SsOk (prog : Program) (w : World) (g : Ad) (Φ : Fns) (L n : Nat) : Prop := ∀ (cf : Cfg) (st : List Stmt) (env : Env) (ownc own : Option Addr) (s₀ s : Shared) (ρ : List D) (f : Fl) (ρ' : List D) (A : Around),
  AOk A (n + L) → Fr g cf.names cf.gs env ownc own s₀ s ρ → Mine.exec Φ (trSs n cf st) ρ = some (f, ρ') → wpX (model prog w) A (execs st env) (Out g cf.names cf.gs env ownc s₀ own s f ρ') s

theorem case_while {cf : Cfg} {t : Expr} {body : List Stmt} {pos : Pos} {f : Fl} {ρ' : List D} (hΦ : FnsOk prog w g Φ L) (ihs : SsOk prog w g Φ L n) (hA : AOk A (n + L)) (fr : Fr g cf.names cf.gs env ownc own s₀ s ρ)
    (h : Mine.exec Φ (.while_ (trT n cf.names cf.gs t) (trSs n cf body)) ρ = some (f, ρ')) : wpX (model prog w) A (PySem.exec (.While t body [] pos) env) (Out g cf.names cf.gs env ownc s₀ own s f ρ') s := by
  have it := (ev_sound hΦ n).2.1
  refine wpX_While (codeX_whileLoop (fun k s1 => ∃ ρk ownk, whileL (fun ρ => (ev Φ (trT n cf.names cf.gs t) ρ).bind truthy) (Mine.exec Φ (trSs n cf body)) k ρk = some (f, ρ') ∧ Fr g cf.names cf.gs env ownc ownk s₀ s1 ρk ∧ Pr own ownk s s1 ∧ s.toks ≤ s1.toks) ?_
    fuel ⟨ρ, own, h, fr, .refl _ _, Nat.le_refl _⟩)
  rintro k s1 ⟨ρk, ownk, h, f1, p1, t1⟩
  cases k with
  | zero => cases h
  | succ k =>
    simp only [whileL] at h
    obtain ⟨b, hb, h⟩ := bindSome h
    refine wpX_mono (wpX_toks (it _ _ t env ownk s1 ρk b A hA f1.vw hb)) ?_
    rintro b' s2 ⟨t2, rfl, k2⟩
    have f2 := f1.next k2 t2
    have p2 := p1.trans (Pr.of_keeps k2)
    have t2 := Nat.le_trans t1 t2
    cases b' with
    | false =>
      simp only [Bool.false_eq_true, if_false, Option.some.injEq] at h ⊢
      cases h
      exact ⟨rfl, ownk, f2, p2, t2⟩
    | true =>
      simp only [if_true] at h ⊢
      obtain ⟨⟨f3, ρ3⟩, h3, h⟩ := bindSome h
      refine wpX_mono (ihs cf body env ownc ownk s₀ s2 ρk f3 ρ3 A hA f2 h3) ?_
      intro fl s3 ho
      cases f3 with
      | next =>
        obtain ⟨rfl, o3, g3, p3, t3⟩ := ho
        exact ⟨k, Nat.lt_succ_self _, ρ3, o3, h, g3, p2.trans p3, Nat.le_trans t2 t3⟩
      | cont =>
        obtain ⟨rfl, o3, g3, p3, t3⟩ := ho
        exact ⟨k, Nat.lt_succ_self _, ρ3, o3, h, g3, p2.trans p3, Nat.le_trans t2 t3⟩
      | brk =>
        obtain ⟨rfl, o3, g3, p3, t3⟩ := ho
        cases h
        exact ⟨rfl, o3, g3, p2.trans p3, Nat.le_trans t2 t3⟩
      | ret d =>
        obtain ⟨v, rfl, r⟩ := ho
        cases h
        exact ⟨v, rfl, r⟩
theorem map_sc {α : Type} {f : α → D} {xs : List α} {k : Nat} {d : D} (hf : ∀ a, ∃ c, f a = .sc c) (hk : (xs.map f)[k]? = some d) : ∃ c, d = .sc c := by
  rw [List.getElem?_map] at hk
  obtain ⟨a, _, rfl⟩ := Option.map_eq_some_iff.mp hk
  exact hf a
theorem items_sc {x : D} {l : List D} {k : Nat} {d : D} (h : items x = some l) (hk : l[k]? = some d) : ∃ c, d = .sc c := by
  cases x with
  | list l => cases h; exact map_sc (fun a => ⟨a, rfl⟩) hk
  | rng a b c => cases (ite_some h).2; exact map_sc (fun a => ⟨_, rfl⟩) hk
  | sc c => cases c with
    | str l => cases (ite_some h).2; exact map_sc (fun a => ⟨_, rfl⟩) hk
    | _ => exact nope h
  | _ => exact nope h
/-! the for loop, over any frame -/
theorem wpX_toks' {α : Type} {M : Model} {A : Around} {s : Shared} {t : Sem α} {Q : α → Shared → Prop} (h : wpX M A t (fun a s' => s.toks ≤ s'.toks → Q a s') s) : wpX M A t Q s := wpX_mono (wpX_toks h) fun _ _ h => h.2 h.1
noncomputable def GoF (F : Option Addr → Shared → List D → Prop) (own : Option Addr) (s : Shared) (ρ' : List D) (s' : Shared) : Prop := ∃ o, F o s' ρ' ∧ Pr own o s s' ∧ s.toks ≤ s'.toks
noncomputable def OutF (F : Option Addr → Shared → List D → Prop) (B : D → Value → Shared → Prop) (own : Option Addr) (s : Shared) (f : Fl) (ρ' : List D) (fl : Flow) (s' : Shared) : Prop := match f with
  | .next => fl = .next ∧ GoF F own s ρ' s'
  | .brk => fl = .brk ∧ GoF F own s ρ' s'
  | .cont => fl = .cont ∧ GoF F own s ρ' s'
  | .ret d => ∃ v, fl = .ret v ∧ B d v s'
structure FI (F : Option Addr → Shared → List D → Prop) (own : Option Addr) (s : Shared) (fp : List Addr) (St : Heap → Prop) (ρ : List D) (o : Option Addr) (s' : Shared) : Prop where
  fr : F o s' ρ
  pr : Pr own o s s'
  tk : s.toks ≤ s'.toks
  st : St s'.heap
  fp : ∀ b ∈ fp, o ≠ some b ∧ ∃ ob, s'.heap.get? b = some ob ∧ ¬ EnvObj ob
section
variable {F : Option Addr → Shared → List D → Prop} {B : D → Value → Shared → Prop} {fp : List Addr} {St : Nat → Heap → Prop} {j i : Nat} {o o' : Option Addr} {ρ' : List D} {I : Addr} {l : List D}
theorem FI.go (x : FI F own s fp (St j) ρ o s') : GoF F own s ρ s' := ⟨o, x.fr, x.pr, x.tk⟩
theorem FI.on {s2 : Shared} (x : FI F own s fp (St j) ρ o s') (hfrm : ∀ i h h', St i h → (∀ b ∈ fp, ∀ o, h.get? b = some o → h'.get? b = some o) → St i h') (f : F o' s2 ρ') (p : Pr o o' s' s2) (t : s'.toks ≤ s2.toks) : FI F own s fp (St j) ρ' o' s2 :=
  ⟨f, x.pr.trans p, Nat.le_trans x.tk t, hfrm _ _ _ x.st fun b hb ob e => let ⟨q, ob', e', n⟩ := x.fp b hb; (p b ob (by rw [e'] at e; cases e; exact n) q e).1,
    fun b hb => let ⟨q, ob', e', n⟩ := x.fp b hb; let ⟨r1, r2⟩ := p b ob' n q e'; ⟨r2, ob', r1, n⟩⟩
/-- the iterator turns -/
theorem FI.moved {h4 : Heap} {tk4 : Nat} (x : FI F own s fp (St j) ρ o s') (hIs : s.heap.get? I = none) (hIfp : I ∈ fp)
    (hturn : ∀ o s ρ h' tk, F o s ρ → (∀ ob, s.heap.get? I = some ob → Inert ob) → o ≠ some I → (∀ b ob, b ≠ I → s.heap.get? b = some ob → h'.get? b = some ob) → s.toks ≤ tk → F o { s with heap := h', toks := tk } ρ)
    (iter : ∀ k h, St k h → ∃ o, h.get? I = some o ∧ ItObj o ∧ ¬ EnvObj o) (hk : ∀ b o, b ≠ I → s'.heap.get? b = some o → h4.get? b = some o) (ht : s'.toks ≤ tk4) : F o { s' with heap := h4, toks := tk4 } ρ ∧ Pr own o s { s' with heap := h4, toks := tk4 } := by
  refine ⟨hturn _ _ _ _ _ x.fr (fun ob e => ?_) (x.fp I hIfp).1 hk ht, fun b ob hb he e => ?_⟩
  · obtain ⟨ob', e1, e2, _⟩ := iter _ _ x.st
    rw [e1] at e; cases e
    exact .inr e2
  · obtain ⟨q1, q2⟩ := x.pr b ob hb he e
    exact ⟨hk b ob (fun e' => by rw [e', hIs] at e; cases e) q1, q2⟩
theorem FI.turn {h4 : Heap} {tk4 k : Nat} (x : FI F own s fp (St j) ρ o s') (y : F o { s' with heap := h4, toks := tk4 } ρ ∧ Pr own o s { s' with heap := h4, toks := tk4 })
    (iter : ∀ k h, St k h → ∃ o, h.get? I = some o ∧ ItObj o ∧ ¬ EnvObj o) (st4 : St k h4) (hk : ∀ b o, b ≠ I → s'.heap.get? b = some o → h4.get? b = some o) (ht : s'.toks ≤ tk4) : FI F own s fp (St k) ρ o { s' with heap := h4, toks := tk4 } := by
  refine ⟨y.1, y.2, Nat.le_trans x.tk ht, st4, fun b hb => ?_⟩
  obtain ⟨q, ob, e, n⟩ := x.fp b hb
  refine ⟨q, ?_⟩
  by_cases hbI : b = I
  · obtain ⟨ob', e1, _, e3⟩ := iter _ _ st4
    exact ⟨ob', hbI ▸ e1, e3⟩
  · exact ⟨ob, hk b ob hbI e, n⟩
theorem but_one {h h' : Heap} (hk : ∀ b o, b ∉ [I] → h.get? b = some o → h'.get? b = some o) : ∀ b o, b ≠ I → h.get? b = some o → h'.get? b = some o := fun b o hb e => hk b o (fun h => hb (List.mem_singleton.mp h)) e
theorem for_walk {target : Expr} {body : List Stmt} {run : List D → Option (Fl × List D)} {f : Fl} {Q : Result → Shared → Prop}
    (hQ : ∀ fl s', OutF F B own s f ρ' fl s' → Q (.ok fl) s')
    (W : Walks prog w A I fp [I] l.length (PofL l) St) (hIs : s.heap.get? I = none)
    (hturn : ∀ o s ρ h' tk, F o s ρ → (∀ ob, s.heap.get? I = some ob → Inert ob) → o ≠ some I → (∀ b ob, b ≠ I → s.heap.get? b = some ob → h'.get? b = some ob) → s.toks ≤ tk → F o { s with heap := h', toks := tk } ρ)
    (iter : ∀ k h, St k h → ∃ o, h.get? I = some o ∧ ItObj o ∧ ¬ EnvObj o)
    (store : ∀ o s ρ c v (Q : Unit → Shared → Prop), F o s ρ → freeAt ρ i = true → toSc v = some c → (∀ s', F o s' (ρ.set i (.sc c)) → Pr o o s s' → s.toks ≤ s'.toks → Q () s') → wpX (model prog w) A (assign target env v) Q s)
    (step : ∀ o s ρ f ρ', F o s ρ → run ρ = some (f, ρ') → wpX (model prog w) A (execs body env) (OutF F B o s f ρ') s)
    (ht : ∀ v, letOwnedTupleGo target (.ref I) v = pure ()) {o : Option Addr} {ρ : List D} (h : forL run i l ρ = some (f, ρ')) (x : FI F own s fp (St 0) ρ o s') :
    codeX (model prog w) A (.forLoop target (.ref I) body [] env) Q s' := by
  have hIfp : I ∈ fp := W.sub I (List.mem_singleton.mpr rfl)
  refine codeX_forLoop (fun k s' => ∃ j ρ o, k = l.length - j ∧ j ≤ l.length ∧ forL run i (l.drop j) ρ = some (f, ρ') ∧ FI F own s fp (St j) ρ o s') ?_ l.length ⟨0, ρ, o, rfl, Nat.zero_le _, h, x⟩ ht
  clear h x
  rintro k s3 ⟨j, ρ, o, rfl, hj, h, x⟩
  by_cases hlt : j < l.length
  · rw [List.drop_eq_getElem_cons hlt] at h
    obtain ⟨hfree, h⟩ := ite_none h
    obtain ⟨⟨f5, ρ5⟩, h5, h⟩ := bindSome h
    refine wpX_toks' (.of (W.item j s3 _ _ hlt x.st fun v h4 tk4 hP st4 hk4 ht4 => ?_))
    obtain ⟨c, hcl, hcv⟩ := hP
    have hk4 := but_one hk4
    have x4 := x.turn (x.moved hIs hIfp hturn iter hk4 ht4) iter st4 hk4 ht4
    rw [List.getElem?_eq_getElem hlt] at hcl
    rw [Option.some.inj hcl] at h5
    refine store _ _ _ c v _ x4.fr (by simpa using hfree) hcv fun s5 g5 p5 t5 => wpX_mono (step _ _ _ _ _ g5 h5) fun fl s6 ho => ?_
    have x5 := x4.on W.frame g5 p5 t5
    cases f5 with
    | next =>
      obtain ⟨rfl, o6, g6, p6, t6⟩ := ho
      exact ⟨l.length - (j + 1), by lia, j + 1, ρ5, o6, rfl, hlt, h, x5.on W.frame g6 p6 t6⟩
    | cont =>
      obtain ⟨rfl, o6, g6, p6, t6⟩ := ho
      exact ⟨l.length - (j + 1), by lia, j + 1, ρ5, o6, rfl, hlt, h, x5.on W.frame g6 p6 t6⟩
    | brk =>
      obtain ⟨rfl, o6, g6, p6, t6⟩ := ho
      cases h
      exact hQ _ _ ⟨rfl, (x5.on W.frame g6 p6 t6).go⟩
    | ret d =>
      obtain ⟨v, rfl, r⟩ := ho
      cases h
      exact hQ _ _ ⟨v, rfl, r⟩
  · have e : j = l.length := by lia
    subst e
    rw [List.drop_length] at h
    cases h
    refine wpX_toks' (.of (W.done s3 _ _ x.st fun h4 tk4 hk4 ht4 => ?_))
    have y := x.moved hIs hIfp hturn iter (but_one hk4) ht4
    exact hQ _ _ ⟨rfl, o, y.1, y.2, Nat.le_trans x.tk ht4⟩
end
theorem OutF.out {f : Fl} {fl : Flow} {ρ' : List D} (h : OutF (Fr g ns gs env ownc · s₀ · ·) (fun d v s' => Rp ownc s'.heap v d ∧ Keeps s₀ s' ∧ s₀.toks ≤ s'.toks) own s f ρ' fl s') : Out g ns gs env ownc s₀ own s f ρ' fl s' := by cases f <;> exact h
theorem Out.outF {f : Fl} {fl : Flow} {ρ' : List D} (h : Out g ns gs env ownc s₀ own s f ρ' fl s') : OutF (Fr g ns gs env ownc · s₀ · ·) (fun d v s' => Rp ownc s'.heap v d ∧ Keeps s₀ s' ∧ s₀.toks ≤ s'.toks) own s f ρ' fl s' := by cases f <;> exact h
theorem not_local {I : Addr} (f : Fr0 g ns gs env ownc own s₀ s ρ) (hI : s.heap.get? I = none) : I ≠ env.locals ∧ ∀ n c, env.cells.lookup n = some c → c ≠ I := by
  obtain ⟨m, cm, X, _⟩ := f.fr
  refine ⟨?_, ?_⟩
  · rintro rfl
    obtain ⟨o, _, _, ho, _⟩ := X.toInCall.ns
    rw [hI] at ho; cases ho
  · rintro n c hc rfl
    obtain ⟨o, ho, _⟩ := X.cell n c hc
    rw [hI] at ho; cases ho
theorem case_for {cf : Cfg} {x : Str} {xp pos : Pos} {itE : Expr} {body : List Stmt} {i : Nat} {f : Fl} {ρ' : List D} (hΦ : FnsOk prog w g Φ L) (ihs : SsOk prog w g Φ L n) (hA : AOk A (n + L)) (fr : Fr g cf.names cf.gs env ownc own s₀ s ρ) (hi : idxOf cf.names x = some i)
    (h : Mine.exec Φ (.for_ i (tr n cf.names cf.gs itE) (trSs n cf body)) ρ = some (f, ρ')) : wpX (model prog w) A (PySem.exec (.For (.Name x xp) itE body [] pos) env) (Out g cf.names cf.gs env ownc s₀ own s f ρ') s := by
  obtain ⟨xd, hx, h⟩ := bindSome h
  obtain ⟨l, hl, h⟩ := bindSome h
  obtain ⟨_, h⟩ := ite_some h
  refine wpX_For (wpX_mono (wpX_toks ((ev_sound hΦ n).1 _ _ itE env own s ρ xd A hA fr.vw hx)) ?_) (folded_of hx)
  rintro v s1 ⟨t1, r1, k1⟩
  have f1 := fr.next k1 t1
  refine .of (iter_sound hl r1 fun ob fp St W st0 hfp hit => ?_)
  have k2 : Keeps s1 { s1 with heap := s1.heap.push ob } := keeps_of (Ext.push _ _)
  have hI1 : s1.heap.get? s1.heap.objs.size = none := fresh_none (Nat.le_refl _)
  have iter : ∀ k h, St k h → ∃ o, h.get? s1.heap.objs.size = some o ∧ ItObj o ∧ ¬ EnvObj o := fun k h st => by
    obtain ⟨ob, es, e1, e2, e3⟩ := hit k h st
    exact ⟨ob, e1, e2, itObj_not_env e2 ⟨es, e3⟩⟩
  obtain ⟨hIL, hIc⟩ := not_local f1.toFr0 hI1
  refine for_walk (F := (Fr g cf.names cf.gs env ownc · s₀ · ·)) (fun fl s' ho => ho.out) (W A hA.1) (none_of (keeps_ext k1) hI1)
    (fun o s ρ h' tk f hin ho hk ht => f.turn (none_of (keeps_ext f1.keep) hI1) hIL hIc hin ho hk ht) iter
    (fun o s ρ c v Q f hfree hv hQ => .of (wpAny_assign_Name (f.store (d := .sc c) (idxOf_at hi) (.sc hv) (ph_set f.ph hfree rfl) fun s5 g5 p5 t5 _ => hQ s5 g5 p5 t5)))
    (fun o s ρ f ρ' fr h => wpX_mono (ihs cf body env ownc o s₀ s ρ f ρ' A hA fr h) fun fl s' ho => ho.outF) (fun _ => rfl) h
    ⟨f1.next k2 (Nat.le_refl _), (Pr.of_keeps k1).trans (Pr.of_keeps k2), t1, st0, fun b hb => ?_⟩
  rcases hfp b hb with rfl | ⟨hn, vs, k, e⟩
  · obtain ⟨ob, e1, _, e3⟩ := iter 0 _ st0
    refine ⟨fun e => ?_, ob, e1, e3⟩
    obtain ⟨o, ho⟩ := f1.alive _ e
    rw [hI1] at ho; cases ho
  · exact ⟨hn, _, keeps_ext k2 _ _ e, ls_not_env⟩
end
end Mine

end
section
open PySem PySem.W PyProof.Rows
set_option Elab.async false
set_option maxRecDepth 100000
namespace Mine
section
variable {prog : Program} {w : World} {g : Ad} {Φ : Fns} {L : Nat} {n : Nat} {ns : List Str} {gs : Gs} {env : Env} {ownc own : Option Addr} {s₀ s s' : Shared} {ρ : List D} {A : Around}
theorem failS {f : Fl} {ρ' : List D} {P : Prop} (h : Mine.exec Φ .fail ρ = some (f, ρ')) : P := nope h
section
variable {α : Type} {f : Fl} {ρ' : List D} {o : Option α} {k : α → Mine.S} {a b : Mine.S} {c : Bool}
theorem onS_ex (h : Mine.exec Φ (onS o k) ρ = some (f, ρ')) : ∃ a, o = some a ∧ Mine.exec Φ (k a) ρ = some (f, ρ') := by
  cases o with
  | some a => exact ⟨a, rfl, h⟩
  | none => exact failS h
theorem elS_ex (h : Mine.exec Φ (elS o k a) ρ = some (f, ρ')) : (∃ a, o = some a ∧ Mine.exec Φ (k a) ρ = some (f, ρ')) ∨ Mine.exec Φ a ρ = some (f, ρ') := by
  cases o with
  | some a => exact .inl ⟨a, rfl, h⟩
  | none => exact .inr h
theorem ifS_ex (h : Mine.exec Φ (ifS c a) ρ = some (f, ρ')) : c = true ∧ Mine.exec Φ a ρ = some (f, ρ') := by
  cases c with
  | true => exact ⟨rfl, h⟩
  | false => exact failS h
theorem eiS_ex (h : Mine.exec Φ (eiS c a b) ρ = some (f, ρ')) : Mine.exec Φ a ρ = some (f, ρ') ∨ Mine.exec Φ b ρ = some (f, ρ') := by
  cases c with
  | true => exact .inl h
  | false => exact .inr h
end
section
variable {cf : Cfg} {e t : Expr} {pos : Pos} {f : Fl} {ρ' : List D} {i : Nat} {x : Str} {xp : Pos}
theorem asg_own (hΦ : FnsOk prog w g Φ L) (hA : AOk A (n + L)) (fr : Fr g cf.names cf.gs env ownc own s₀ s ρ) (hi : idxOf cf.names x = some i) (h : Mine.exec Φ (asgOwn (tr n cf.names cf.gs) cf.gs i e) ρ = some (f, ρ')) :
    wpX (model prog w) A (PySem.exec (.Assign [.Name x xp] e pos) env) (Out g cf.names cf.gs env ownc s₀ own s f ρ') s := by
  obtain ⟨q, hq, h⟩ | h := elS_ex h
  · obtain ⟨u, hu, h⟩ := onS_ex h
    rw [asList_some hq, l0_some hu]
    exact case_newOwn fr hi h
  · obtain ⟨q, hq, h⟩ := onS_ex h
    obtain ⟨y, hy, h⟩ := onS_ex h
    obtain ⟨a, ha, h⟩ := onS_ex h
    obtain ⟨u, hu, h⟩ := onS_ex h
    obtain ⟨hb, h⟩ := ifS_ex h
    obtain ⟨e1, hG⟩ := of_decide_eq_true hb
    rw [asCall_some hq, asName_some hy, l1_some ha, l0_some hu, e1]
    exact case_newBA hΦ hA fr hi (e1 ▸ hG) h
theorem asg_al (fr : Fr g cf.names cf.gs env ownc own s₀ s ρ) (hi : idxOf cf.names x = some i) (h : Mine.exec Φ (asgAl cf i e) ρ = some (f, ρ')) :
    wpX (model prog w) A (PySem.exec (.Assign [.Name x xp] e pos) env) (Out g cf.names cf.gs env ownc s₀ own s f ρ') s := by
  obtain ⟨q, hq, h⟩ := onS_ex h
  obtain ⟨y, hy, h⟩ := onS_ex h
  obtain ⟨hb, h⟩ := ifS_ex h
  obtain ⟨j, hj, h⟩ := onS_ex h
  rw [asAttr_some hq, asName_some hy, (of_decide_eq_true hb).2]
  exact case_alias fr hi hj h
theorem asg_ok (hΦ : FnsOk prog w g Φ L) (hA : AOk A (n + L)) (fr : Fr g cf.names cf.gs env ownc own s₀ s ρ) (h : Mine.exec Φ (trAsg (tr n cf.names cf.gs) cf e t) ρ = some (f, ρ')) :
    wpX (model prog w) A (PySem.exec (.Assign [t] e pos) env) (Out g cf.names cf.gs env ownc s₀ own s f ρ') s := by
  obtain ⟨q, hq, h⟩ | h := elS_ex h
  · obtain ⟨i, hi, h⟩ := onS_ex h
    rw [asName_some hq]
    obtain h | h := eiS_ex h
    · exact asg_own hΦ hA fr hi h
    obtain h | h := eiS_ex h
    · exact asg_al fr hi h
    obtain ⟨hf, h⟩ := ite_some h
    obtain ⟨d, hd, h⟩ := Option.map_eq_some_iff.mp h
    cases h
    exact case_asg hΦ hA fr hi hf hd
  · obtain ⟨q, hq, h⟩ := onS_ex h
    obtain ⟨y, hy, h⟩ := onS_ex h
    obtain ⟨_, h⟩ := ifS_ex h
    obtain ⟨i, hi, h⟩ := onS_ex h
    rw [asSub_some hq, asName_some hy]
    exact case_setBA hΦ hA fr hi h
theorem doM_ok {m : Str} {args : List Expr} {apos cp : Pos} (hΦ : FnsOk prog w g Φ L) (hA : AOk A (n + L)) (fr : Fr g cf.names cf.gs env ownc own s₀ s ρ) (hl : (apos.endLine == cp.line) = true) (h : Mine.exec Φ (trDoM (tr n cf.names cf.gs) cf m args x) ρ = some (f, ρ')) :
    wpX (model prog w) A (PySem.exec (.Expr (.Call (.Attribute (.Name x xp) m apos) args [] cp) pos) env) (Out g cf.names cf.gs env ownc s₀ own s f ρ') s := by
  obtain ⟨_, h⟩ := ifS_ex h
  obtain ⟨a, ha, h⟩ | h := elS_ex h
  · obtain ⟨hb, h⟩ := ifS_ex h
    obtain ⟨i, hi, h⟩ := onS_ex h
    rw [l1_some ha, of_decide_eq_true hb]
    exact case_app hΦ hA fr hi hl h
  · obtain ⟨q, hq, h⟩ := onS_ex h
    obtain ⟨z, hz, h⟩ := onS_ex h
    obtain ⟨k, hk, h⟩ := onS_ex h
    obtain ⟨hb, h⟩ := ifS_ex h
    obtain ⟨i, hi, h⟩ := onS_ex h
    obtain ⟨e1, e2⟩ := of_decide_eq_true hb
    rw [l2_some hq, asLit_some hz, cInt_some hk, e1, e2]
    exact case_ins0 hΦ hA fr hi hl h
theorem do_ok (hΦ : FnsOk prog w g Φ L) (hA : AOk A (n + L)) (fr : Fr g cf.names cf.gs env ownc own s₀ s ρ) (h : Mine.exec Φ (trDo (tr n cf.names cf.gs) cf e) ρ = some (f, ρ')) :
    wpX (model prog w) A (PySem.exec (.Expr e pos) env) (Out g cf.names cf.gs env ownc s₀ own s f ρ') s := by
  obtain ⟨q, hq, h⟩ := onS_ex h
  obtain ⟨u, hu, h⟩ := onS_ex h
  rw [asCall_some hq, l0_some hu]
  obtain ⟨r, hr, h⟩ | h := elS_ex h
  · obtain ⟨hl, h⟩ := ifS_ex h
    obtain ⟨y, hy, h⟩ := onS_ex h
    rw [asAttr_some hr, asName_some hy]
    exact doM_ok hΦ hA fr hl h
  · obtain ⟨y, hy, h⟩ := onS_ex h
    obtain ⟨a, ha, h⟩ := onS_ex h
    obtain ⟨_, h⟩ := ifS_ex h
    obtain ⟨i, hi, h⟩ := onS_ex h
    rw [asName_some hy, l1_some ha]
    exact case_bmc hΦ hA fr hi h
end
theorem case_if {cf : Cfg} {t : Expr} {a b : List Stmt} {pos : Pos} {f : Fl} {ρ' : List D} (hΦ : FnsOk prog w g Φ L) (ihs : SsOk prog w g Φ L n) (hA : AOk A (n + L)) (fr : Fr g cf.names cf.gs env ownc own s₀ s ρ)
    (h : Mine.exec Φ (.ifs (trT n cf.names cf.gs t) (trSs n cf a) (trSs n cf b)) ρ = some (f, ρ')) : wpX (model prog w) A (PySem.exec (.If t a b pos) env) (Out g cf.names cf.gs env ownc s₀ own s f ρ') s := by
  obtain ⟨c, hc, h⟩ := bindSome h
  refine wpX_If (wpX_mono (wpX_toks ((ev_sound hΦ n).2.1 _ _ _ env own s ρ c A hA fr.vw hc)) ?_)
  rintro b' s1 ⟨t1, rfl, k1⟩
  cases b' with
  | true => exact wpX_mono (ihs cf _ env ownc own s₀ s1 ρ f ρ' A hA (fr.next k1 t1) h) fun fl s2 ho => ho.after (.of_keeps k1) t1
  | false => exact wpX_mono (ihs cf _ env ownc own s₀ s1 ρ f ρ' A hA (fr.next k1 t1) h) fun fl s2 ho => ho.after (.of_keeps k1) t1
theorem st_step (hΦ : FnsOk prog w g Φ L) (ihs : SsOk prog w g Φ L n) : StOk prog w g Φ L (n + 1) := by
  intro cf st env ownc own s₀ s ρ f ρ' A hA fr h
  have hA := hA.down
  cases st with
  | Assign ts e p =>
    obtain ⟨t, ht, h⟩ := onS_ex h
    rw [l1_some ht]
    exact asg_ok hΦ hA fr h
  | AugAssign t op e p =>
    obtain ⟨q, hq, h⟩ := onS_ex h
    obtain ⟨hb, h⟩ := ifS_ex h
    obtain ⟨_, h⟩ := ifS_ex h
    obtain ⟨i, hi, h⟩ := onS_ex h
    rw [asName_some hq, bopOf_inv (of_decide_eq_true hb)]
    exact case_aug hΦ hA fr hi h
  | If t a b p => exact case_if hΦ ihs hA fr h
  | For t it body orelse p =>
    obtain ⟨u, hu, h⟩ := onS_ex h
    obtain ⟨q, hq, h⟩ := onS_ex h
    obtain ⟨_, h⟩ := ifS_ex h
    obtain ⟨i, hi, h⟩ := onS_ex h
    rw [l0_some hu, asName_some hq]
    exact case_for hΦ ihs hA fr hi h
  | While t body orelse p =>
    obtain ⟨u, hu, h⟩ := onS_ex h
    rw [l0_some hu]
    exact case_while hΦ ihs hA fr h
  | Return e p =>
    obtain ⟨e', he, h⟩ := onS_ex h
    rw [he]
    obtain ⟨q, hq, h⟩ | h := elS_ex h
    · obtain h | h := eiS_ex h
      · obtain ⟨i, hi, h⟩ := onS_ex h
        rw [asName_some hq]
        exact case_retOwn fr hi h
      · exact case_ret hΦ hA fr h
    · exact case_ret hΦ hA fr h
  | Break p =>
    cases h
    rw [arm_exec_Break]
    exact wpX_stand (wpX_pure ⟨rfl, own, fr, .refl _ _, Nat.le_refl _⟩)
  | Continue p =>
    cases h
    rw [arm_exec_Continue]
    exact wpX_stand (wpX_pure ⟨rfl, own, fr, .refl _ _, Nat.le_refl _⟩)
  | Expr e p => exact do_ok hΦ hA fr h
  | _ => exact failS h
theorem ss_step (ihs : SsOk prog w g Φ L n) (iht : StOk prog w g Φ L n) : SsOk prog w g Φ L (n + 1) := by
  intro cf st env ownc own s₀ s ρ f ρ' A hA fr h
  have hA := hA.down
  cases st with
  | nil =>
    cases h
    exact wpX_execs_nil ⟨rfl, own, fr, .refl _ _, Nat.le_refl _⟩
  | cons a r =>
    obtain ⟨⟨f1, ρ1⟩, h1, h⟩ := bindSome h
    refine wpX_execs_cons (wpX_mono (iht cf _ env ownc own s₀ s ρ f1 ρ1 A hA fr h1) fun fl s1 ho => ?_)
    cases f1 with
    | next =>
      obtain ⟨rfl, o1, g1, p1, t1⟩ := ho
      exact wpX_mono (ihs cf _ env ownc o1 s₀ s1 ρ1 f ρ' A hA g1 h) fun fl s2 ho => ho.after p1 t1
    | brk =>
      obtain ⟨rfl, ho⟩ := ho
      cases h
      exact ⟨rfl, ho⟩
    | cont =>
      obtain ⟨rfl, ho⟩ := ho
      cases h
      exact ⟨rfl, ho⟩
    | ret d =>
      obtain ⟨v, rfl, ho⟩ := ho
      cases h
      exact ⟨v, rfl, ho⟩
theorem exec_sound (hΦ : FnsOk prog w g Φ L) : ∀ n, StOk prog w g Φ L n ∧ SsOk prog w g Φ L n
  | 0 => ⟨fun cf st env ownc own s₀ s ρ f ρ' A hA fr h => failS h, fun cf st env ownc own s₀ s ρ f ρ' A hA fr h => failS h⟩
  | n + 1 => by
    obtain ⟨h1, h2⟩ := exec_sound hΦ n
    exact ⟨st_step hΦ h2, ss_step h2 h1⟩
end
end Mine

end
section
open PySem PySem.W PyProof.Rows
set_option Elab.async false
set_option maxRecDepth 100000
namespace Mine
/-- the function's names: each once, local or a cell; none free -/
noncomputable def frameOk (sc : Scope) (ns : List Str) : Bool := sc.kind == .function && !sc.isGenerator && !sc.isCoroutine && decide (ns.Nodup) && (ns.all fun x => !(x == ("__debug__" : Str)) && (sc.names.lookup x == some .local || sc.names.lookup x == some .cell)) && sc.names.all fun p => !(p.2 == .free)
structure FrameOk (sc : Scope) (ns : List Str) : Prop where
  kind : sc.kind = .function
  gen : sc.isGenerator = false
  co : sc.isCoroutine = false
  nodup : ns.Nodup
  nodebug : ∀ x ∈ ns, (x == ("__debug__" : Str)) = false
  stored : ∀ x ∈ ns, sc.names.lookup x = some .local ∨ sc.names.lookup x = some .cell
  nofree : ∀ y, sc.names.lookup y ≠ some .free
theorem frameOk_of {sc : Scope} {ns : List Str} (h : frameOk sc ns = true) : FrameOk sc ns := by
  unfold frameOk at h
  simp only [Bool.and_eq_true, Bool.not_eq_true', List.all_eq_true, Bool.or_eq_true, beq_iff_eq, decide_eq_true_eq] at h
  obtain ⟨⟨⟨⟨⟨h1, h2⟩, h3⟩, h4⟩, h5⟩, h6⟩ := h
  refine ⟨h1, h2, h3, h4, fun x hx => (h5 x hx).1, fun x hx => (h5 x hx).2, fun y hy => ?_⟩
  have := h6 _ (mem_of_lookup hy)
  simp at this
theorem bindL_at {kindOf : Str → Option NameKind} : ∀ {binds : List (Str × Value)} {m : Str → Option Value} {x : Str} {v : Value}, (binds.map (·.1)).Nodup → (x, v) ∈ binds → kindOf x = some .local → bindL kindOf binds m x = some v
  | (n, u) :: r, m, x, v, hn, hm, hk => by
    rw [List.map_cons, List.nodup_cons] at hn
    unfold bindL
    rcases List.mem_cons.mp hm with h | h
    · obtain ⟨e1, e2⟩ := Prod.mk.inj h
      subst e1; subst e2
      rw [if_pos hk]
      have : ∀ (r : List (Str × Value)) (m : Str → Option Value), x ∉ r.map (·.1) → m x = some v → bindL kindOf r m x = some v := by
        intro r
        induction r with
        | nil => intro m _ h; exact h
        | cons p r ih =>
          intro m hx h
          obtain ⟨n', u'⟩ := p
          simp only [List.map_cons, List.mem_cons, not_or] at hx
          unfold bindL
          refine ih _ hx.2 ?_
          split
          · simp [hx.1, h]
          · exact h
      exact this r _ hn.1 (by simp)
    · exact bindL_at hn.2 h hk
theorem bindC_at {kindOf : Str → Option NameKind} : ∀ {binds : List (Str × Value)} {m : Str → Option Value} {x : Str} {v : Value}, (binds.map (·.1)).Nodup → (x, v) ∈ binds → kindOf x = some .cell → bindC kindOf binds m x = some v
  | (n, u) :: r, m, x, v, hn, hm, hk => by
    rw [List.map_cons, List.nodup_cons] at hn
    unfold bindC
    rcases List.mem_cons.mp hm with h | h
    · obtain ⟨e1, e2⟩ := Prod.mk.inj h
      subst e1; subst e2
      rw [if_neg (by rw [hk]; decide)]
      have : ∀ (r : List (Str × Value)) (m : Str → Option Value), x ∉ r.map (·.1) → m x = some v → bindC kindOf r m x = some v := by
        intro r
        induction r with
        | nil => intro m _ h; exact h
        | cons p r ih =>
          intro m hx h
          obtain ⟨n', u'⟩ := p
          simp only [List.map_cons, List.mem_cons, not_or] at hx
          unfold bindC
          refine ih _ hx.2 ?_
          split
          · exact h
          · simp [hx.1, h]
      exact this r _ hn.1 (by simp)
    · exact bindC_at hn.2 h hk
/-- the arguments stand for the data -/
inductive ArgsAre (own : Option Addr) (h : Heap) : List Value → List D → Prop
  | nil : ArgsAre own h [] []
  | cons {v : Value} {d : D} {vs : List Value} {ds : List D} : Rp own h v d → ArgsAre own h vs ds → ArgsAre own h (v :: vs) (d :: ds)
theorem ArgsAre.at {own : Option Addr} {h : Heap} : ∀ {vs : List Value} {ds : List D}, ArgsAre own h vs ds → vs.length = ds.length ∧ ∀ (i : Nat) d, ds[i]? = some d → ∃ v, vs[i]? = some v ∧ Rp own h v d
  | _, _, .nil => ⟨rfl, fun i d e => by simp at e⟩
  | _, _, .cons r x => by
    obtain ⟨h1, h2⟩ := x.at
    refine ⟨by simp [h1], fun i d e => ?_⟩
    cases i with
    | zero => simp at e; subst e; exact ⟨_, rfl, r⟩
    | succ i => simp at e; simpa using h2 i d e
theorem clean_args {own : Option Addr} {h : Heap} {vs : List Value} {ds : List D} (x : ArgsAre own h vs ds) (k : Nat) : clean (ds ++ List.replicate k .undef) = true := by
  have h1 : clean ds = true := by
    induction x with
    | nil => rfl
    | cons r _ ih =>
      unfold clean at ih ⊢
      rw [List.all_cons, rp_ownish r, ih]; rfl
  unfold clean at h1 ⊢
  rw [List.all_append, h1]
  simp [ownish]
section
variable {prog : Program} {w : World} {g : Ad} {Φ : Fns} {L N : Nat} {own : Option Addr} {s : Shared} {A : Around}
theorem fn_sound {cf : Cfg} {a : Addr} {name : Str} {fi : Nat} {dV : Value} {vals all : List Value} {ds : List D} {k : Nat} {pn : List Str} {d : D} {ρ' : List D}
    (hΦ : FnsOk prog w g Φ L) (hA : AOk A (N + 1 + L)) (hG : GlobOk g s.heap) (ht : 1 ≤ s.toks) (ho : Own own s.heap) (fa : FnAt s.heap a name fi dV) (fo : FrameOk (scopeAt fi) cf.names) (hgs : cf.gs = (scopeAt fi).names)
    (hpn : cf.names = pn ++ cf.names.drop pn.length) (hk : cf.names.length = pn.length + k) (hall : pn.length = all.length)
    (hbind : ∀ pm cd doc kV, BindsTo s { Calls.docDef name (paramsAt fi) (bodyAt fi) (scopeAt fi) pm cd doc with defaults := dV, kwdefaults := kV } ⟨vals, []⟩ (pn.zip all))
    (hargs : ArgsAre own s.heap all ds) (h : Mine.exec Φ (trSs N cf (bodyAt fi)) (ds ++ List.replicate k .undef) = some (.ret d, ρ')) :
    wpX (model prog w) A (call (.ref a) vals) (Ps own s d) s := by
  obtain ⟨o, pm, cd, doc, kV, hget, hdata, hcd⟩ := fa
  obtain ⟨hlen, hat⟩ := hargs.at
  refine wpX_call (codeX_call_function (body := bodyAt fi) (by have := hA.2.1; lia) hget hdata fo.co fo.gen rfl hcd (.of (hbind pm cd doc kV _ _ _ _ ?_)))
  have hmem : ∀ x ∈ pn.zip all, x.1 ∈ cf.names := fun x hx => by rw [hpn]; exact List.mem_append_left _ (List.of_mem_zip hx).1
  have hkind : ∀ x ∈ pn.zip all, (scopeAt fi).names.lookup x.1 = some .local ∨ ((scopeAt fi).names.lookup x.1 = some .cell ∧ ((cellsFrom (s.heap.objs.size + 1) (scopeAt fi).names []).lookup x.1).isSome = true) := fun x hx => by
    rcases fo.stored x.1 (hmem x hx) with h | h
    · exact .inl h
    · exact .inr ⟨h, cf_has (.inl (mem_of_lookup h))⟩
  refine wpX_mono (wpX_toks (.of (wpAny_newFunctionEnv_cells fo.kind hkind (Q := fun env s' => env = newEnv (scopeAt fi) s.heap.objs.size mainGlobals (cellsFrom (s.heap.objs.size + 1) (scopeAt fi).names []) (name ++ ".<locals>.") (some a) cd none builtinsNs ∧
    InCallC s env.locals (bindL env.kindOf (pn.zip all) fun _ => none) env.cells (bindC env.kindOf (pn.zip all) fun _ => none) s') fun env he s' x => ⟨he, x⟩))) ?_
  rintro env s1 ⟨t1, he, X⟩
  have hko : ∀ y, env.kindOf y = (scopeAt fi).names.lookup y := fun y => by rw [he]; rfl
  refine ⟨hG.lim.keeps X.toInCall.keep, codeX_func ?_⟩
  have hnd : ((pn.zip all).map (·.1)).Nodup := by
    rw [List.map_fst_zip (Nat.le_of_eq hall)]
    have := fo.nodup
    rw [hpn] at this
    exact (List.nodup_append.mp this).1
  have fr : Fr g cf.names cf.gs env own own s s1 (ds ++ List.replicate k .undef) := by
    refine ⟨⟨by rw [he]; exact fo.kind, fun y kk hy => .inl (by rw [hko, ← hgs]; exact hy), fun y hy => ?_, by rw [he]; rfl, by rw [he]; rfl, fo.nodebug, fo.nodup, ?_, fun x hx => by rw [hko]; exact fo.stored x hx, hG, ht, t1, ho, ho.ext X.toInCall.keep, _, _, X, fun i x d' h1 h2 h3 => ?_⟩, .inl ⟨clean_args hargs k, rfl⟩⟩
    · rw [hko] at hy
      rcases hy with hy | hy
      · have := cf_has (names := (scopeAt fi).names) (n := s.heap.objs.size + 1) (acc := []) (.inl (mem_of_lookup hy))
        rw [he]
        exact Option.isSome_iff_exists.mp this
      · exact absurd hy (fo.nofree y)
    · rw [hk, List.length_append, List.length_replicate, ← hlen, hall]
    · have hi : i < ds.length := by
        by_cases hi : i < ds.length
        · exact hi
        · rw [List.getElem?_append_right (by lia)] at h2
          have := List.mem_of_getElem? h2
          exact absurd (List.eq_of_mem_replicate this) h3
      rw [List.getElem?_append_left hi] at h2
      obtain ⟨v, hv, r⟩ := hat i d' h2
      have hx : pn[i]? = some x := by
        rw [hpn, List.getElem?_append_left (by lia)] at h1
        exact h1
      have hz : (x, v) ∈ pn.zip all := List.mem_iff_getElem?.mpr ⟨i, by rw [List.getElem?_zip_eq_some]; exact ⟨hx, hv⟩⟩
      refine ⟨v, ?_, (hd_of r).ext X.toInCall.keep⟩
      rcases fo.stored x (List.mem_of_getElem? h1) with h | h
      · exact .inl ⟨by rw [hko]; exact h, bindL_at hnd hz (by rw [hko]; exact h)⟩
      · exact .inr ⟨by rw [hko]; exact h, bindC_at hnd hz (by rw [hko]; exact h)⟩
  have hA' : AOk (A.deeper env) (N + L) := by
    refine ⟨hA.1, ?_, ?_⟩
    · show A.depth + 1 + (N + L) < recursionLimit
      have := hA.2.1
      lia
    · show A.units + 3 + 8 * (N + L) + 100 < cLine
      have := hA.2.2
      lia
  refine wpX_mono ((exec_sound hΦ N).2 cf (bodyAt fi) env own own s s1 _ (.ret d) ρ' _ hA' fr h) ?_
  rintro f s2 ⟨v, rfl, r, k2, _⟩
  exact ⟨r, k2⟩
end
end Mine

end
section
set_option Elab.async false
namespace Mine
noncomputable def lPartsB1 : S := S.seq (S.ifs (X.cmp COp.eq (X.v 3) (X.c (Sc.str [46]))) (S.seq (S.aug 2 (X.c (Sc.int 1))) S.skip) (S.seq (S.ins0 1 (X.v 2)) S.skip)) S.skip
noncomputable def lParts : S := S.seq (S.newOwn 1) (S.seq (S.asg 2 (X.c (Sc.int 0))) (S.seq (S.for_ 3 (X.v 0) lPartsB1) (S.seq (S.retOwn 1) S.skip)))
noncomputable def lHooksB1 : S := S.seq (S.asg 5 (X.bin BOp.sub (X.bin BOp.sub (X.idx (X.v 1) (X.v 3)) (X.v 4)) (X.c (Sc.int 1)))) (S.seq (S.asg 6 (X.f1 F1.len (X.comp false [4] (X.slL (X.v 1) (X.bin BOp.add (X.v 3) (X.c (Sc.int 1)))) (some (X.cmp COp.gt (X.v 0) (X.v 1))) (X.v 0)))) (S.seq (S.app 2 (X.bin BOp.add (X.bin BOp.add (X.v 5) (X.v 6)) (X.c (Sc.int 1)))) S.skip))
noncomputable def lHooksB2 : S := S.seq (S.for_ 4 (X.f1 F1.range (X.idx (X.v 1) (X.v 3))) lHooksB1) S.skip
noncomputable def lHooks : S := S.seq (S.asg 1 (X.f1 F1.parts (X.v 0))) (S.seq (S.newOwn 2) (S.seq (S.for_ 3 (X.f1 F1.range (X.f1 F1.len (X.v 1))) lHooksB2) (S.seq (S.retOwn 2) S.skip)))
noncomputable def lSwapB1 : S := S.seq (S.setBA 2 (X.bin BOp.sub (X.bin BOp.sub (X.bin BOp.add (X.v 3) (X.v 1)) (X.c (Sc.int 1))) (X.v 4)) (X.idx (X.v 0) (X.bin BOp.add (X.v 3) (X.v 4)))) S.skip
noncomputable def lSwapB2 : S := S.seq (S.for_ 4 (X.f1 F1.range (X.v 1)) lSwapB1) S.skip
noncomputable def lSwap : S := S.seq (S.newBA 2 (X.f1 F1.len (X.v 0))) (S.seq (S.for_ 3 (X.f3 F3.range (X.c (Sc.int 0)) (X.f1 F1.len (X.v 0)) (X.v 1)) lSwapB2) (S.seq (S.ret (X.f1 F1.bytes (X.v 2))) S.skip))
noncomputable def lMovedB1 : S := S.seq (S.asg 7 (X.comp false [1, 0] (X.f2 F2.range (X.v 1) (X.c (Sc.int 12))) (some (X.and (X.cmp COp.ne (X.idx (X.v 2) (X.v 0)) (X.c (Sc.int 46))) (X.cmp COp.eq (X.idx (X.v 2) (X.bin BOp.sub (X.v 0) (X.v 1))) (X.c (Sc.int 46))))) (X.v 0))) (S.seq (S.ifs (X.cmp COp.eq (X.v 7) X.l0) (S.seq S.brk S.skip) S.skip) (S.seq (S.asg 6 (X.idx (X.v 7) (X.bin BOp.mod (X.idx (X.v 2) (X.v 5)) (X.f1 F1.len (X.v 7))))) (S.seq (S.asg 8 (X.f1 F1.parts (X.m0 M0.decode (X.v 0)))) (S.seq (S.asg 9 (X.f2 F2.swap (X.slB (X.v 0) (X.bin BOp.sub (X.v 6) (X.v 1)) (X.bin BOp.add (X.v 6) (X.c (Sc.int 1)))) (X.bin BOp.add (X.v 1) (X.c (Sc.int 1))))) (S.seq (S.asg 0 (X.bin BOp.add (X.bin BOp.add (X.bin BOp.add (X.bin BOp.add (X.slU (X.v 0) (X.bin BOp.sub (X.v 6) (X.v 1))) (X.slU (X.v 9) (X.c (Sc.int 1)))) (X.f2 F2.swap (X.slB (X.v 9) (X.c (Sc.int 1)) (X.neg (X.c (Sc.int 1)))) (X.bin BOp.sub (X.v 1) (X.c (Sc.int 1))))) (X.slL (X.v 9) (X.neg (X.c (Sc.int 1))))) (X.slL (X.v 0) (X.bin BOp.add (X.v 6) (X.c (Sc.int 1)))))) (S.seq (S.asg 10 (X.f1 F1.parts (X.m0 M0.decode (X.v 0)))) (S.seq (S.ifs (X.cmp COp.ne (X.bin BOp.sub (X.f1 F1.sum (X.v 8)) (X.f1 F1.sum (X.v 10))) (X.v 1)) (S.seq (S.ret X.l0) S.skip) S.skip) (S.seq (S.aug 4 (X.bin BOp.sub (X.f1 F1.len (X.comp false [10, 8] (X.f1 F1.range (X.f1 F1.len (X.v 10))) (some (X.cmp COp.ne (X.idx (X.v 1) (X.v 0)) (X.idx (X.v 2) (X.v 0)))) (X.v 0))) (X.c (Sc.int 1)))) (S.seq (S.aug 3 (X.c (Sc.int 1))) S.skip)))))))))
noncomputable def lMoved : S := S.seq (S.asg 3 (X.c (Sc.int 0))) (S.seq (S.asg 4 (X.c (Sc.int 0))) (S.seq (S.for_ 5 (X.f1 F1.range (X.c (Sc.int 13))) lMovedB1) (S.seq (S.ret (X.l3 (X.m0 M0.decode (X.v 0)) (X.v 3) (X.bin BOp.mod (X.v 4) (X.c (Sc.int 2))))) S.skip)))
noncomputable def lEncB1 : S := S.seq (S.asg 10 (X.bin BOp.add (X.v 8) (X.v 4))) (S.seq (S.ifs (X.cmp COp.eq (X.idx (X.v 7) (X.bin BOp.sub (X.v 10) (X.c (Sc.int 2)))) (X.c (Sc.str [61]))) (S.seq (S.bmc 6 (X.slB (X.v 7) (X.v 8) (X.bin BOp.sub (X.v 10) (X.c (Sc.int 1))))) (S.seq (S.asg 8 (X.bin BOp.sub (X.v 10) (X.c (Sc.int 2)))) S.skip)) (S.seq (S.ifs (X.cmp COp.eq (X.idx (X.v 7) (X.bin BOp.sub (X.v 10) (X.c (Sc.int 1)))) (X.c (Sc.str [61]))) (S.seq (S.bmc 6 (X.slB (X.v 7) (X.v 8) (X.v 10))) (S.seq (S.asg 8 (X.bin BOp.sub (X.v 10) (X.c (Sc.int 1)))) S.skip)) (S.seq (S.bmc 6 (X.bin BOp.add (X.slB (X.v 7) (X.v 8) (X.v 10)) (X.c (Sc.str [61])))) (S.seq (S.asg 8 (X.v 10)) S.skip))) S.skip)) S.skip)
noncomputable def lEncB2 : S := S.seq (S.asg 8 (X.c (Sc.int 0))) (S.seq (S.asg 9 (X.bin BOp.sub (X.bin BOp.sub (X.f1 F1.len (X.v 7)) (X.c (Sc.int 1))) (X.v 1))) (S.seq (S.while_ (X.cmp COp.le (X.v 8) (X.v 9)) lEncB1) (S.seq (S.ifs (X.and (X.v 7) (X.cmp COp.isin (X.idx (X.v 7) (X.neg (X.c (Sc.int 1)))) (X.c (Sc.str [32, 9])))) (S.seq (S.asg 11 (X.bin BOp.sub (X.v 8) (X.v 9))) (S.seq (S.ifs (X.cmp COp.ge (X.v 11) (X.c (Sc.int 3))) (S.seq (S.asg 12 X.fail) S.skip) (S.seq (S.ifs (X.cmp COp.eq (X.v 11) (X.c (Sc.int 2))) (S.seq (S.asg 12 (X.bin BOp.add (X.idx (X.v 7) (X.neg (X.c (Sc.int 1)))) (X.v 3))) S.skip) (S.seq (S.asg 12 (X.bin BOp.add (X.v 3) X.fail)) S.skip)) S.skip)) (S.seq (S.bmc 6 (X.bin BOp.add (X.slB (X.v 7) (X.v 8) (X.neg (X.c (Sc.int 1)))) (X.v 12))) S.skip))) (S.seq (S.bmc 6 (X.slL (X.v 7) (X.v 8))) S.skip)) S.skip)))
noncomputable def lEnc : S := S.seq (S.ifs (X.cmp COp.lt (X.v 1) (X.c (Sc.int 4))) (S.seq S.fail S.skip) S.skip) (S.seq (S.ifs (X.not (X.v 0)) (S.seq (S.ret (X.v 0)) S.skip) S.skip) (S.seq (S.asg 0 (X.m0 M0.translate (X.v 0))) (S.seq (S.asg 3 (X.bin BOp.add (X.c (Sc.str [61])) (X.v 2))) (S.seq (S.asg 4 (X.bin BOp.sub (X.v 1) (X.c (Sc.int 1)))) (S.seq (S.newOwn 5) (S.seq (S.alias 6 5) (S.seq (S.for_ 7 (X.m0 M0.splitlines (X.v 0)) lEncB2) (S.seq (S.ifs (X.cmp COp.isin (X.idx (X.v 0) (X.neg (X.c (Sc.int 1)))) (X.g GV.crlf)) (S.seq (S.bmc 6 (X.c (Sc.str []))) S.skip) S.skip) (S.seq (S.ret (X.m1 M1.join (X.v 2) (X.v 5))) S.skip)))))))))
noncomputable def lDecB1 : S := S.seq (S.asg 6 (X.idx (X.v 3) (X.v 4))) (S.seq (S.ifs (X.cmp COp.ne (X.v 6) (X.c (Sc.str [61]))) (S.seq (S.aug 2 (X.v 6)) (S.seq (S.aug 4 (X.c (Sc.int 1))) S.skip)) (S.seq (S.ifs (X.cmp COp.eq (X.bin BOp.add (X.v 4) (X.c (Sc.int 1))) (X.v 5)) (S.seq (S.aug 4 (X.c (Sc.int 1))) (S.seq S.cont S.skip)) (S.seq (S.ifs (X.and (X.cmp COp.lt (X.bin BOp.add (X.v 4) (X.c (Sc.int 2))) (X.v 5)) (X.and (X.cmp COp.isin (X.idx (X.v 3) (X.bin BOp.add (X.v 4) (X.c (Sc.int 1)))) (X.g GV.hexd)) (X.cmp COp.isin (X.idx (X.v 3) (X.bin BOp.add (X.v 4) (X.c (Sc.int 2)))) (X.g GV.hexd)))) (S.seq (S.aug 2 X.fail) (S.seq (S.aug 4 (X.c (Sc.int 3))) S.skip)) (S.seq (S.aug 2 (X.v 6)) (S.seq (S.aug 4 (X.c (Sc.int 1))) S.skip))) S.skip)) S.skip)) (S.seq (S.ifs (X.cmp COp.eq (X.v 4) (X.v 5)) (S.seq (S.aug 2 (X.v 1)) S.skip) S.skip) S.skip))
noncomputable def lDecB2 : S := S.seq (S.asg 3 (X.m0 M0.rstrip (X.v 3))) (S.seq (S.ifs (X.not (X.v 3)) (S.seq (S.aug 2 (X.v 1)) (S.seq S.cont S.skip)) S.skip) (S.seq (S.asg 4 (X.c (Sc.int 0))) (S.seq (S.asg 5 (X.f1 F1.len (X.v 3))) (S.seq (S.while_ (X.cmp COp.lt (X.v 4) (X.v 5)) lDecB1) S.skip))))
noncomputable def lDec : S := S.seq (S.ifs (X.not (X.v 0)) (S.seq (S.ret (X.v 0)) S.skip) S.skip) (S.seq (S.asg 2 (X.c (Sc.str []))) (S.seq (S.for_ 3 (X.m0 M0.splitlines (X.v 0)) lDecB2) (S.seq (S.ifs (X.and (X.cmp COp.notin (X.idx (X.v 0) (X.neg (X.c (Sc.int 1)))) (X.c (Sc.str [13, 10]))) (X.m1 M1.endswith (X.v 2) (X.v 1))) (S.seq (S.asg 2 (X.slU (X.v 2) (X.neg (X.f1 F1.len (X.v 1))))) S.skip) S.skip) (S.seq (S.ret (X.v 2)) S.skip))))
noncomputable def lLawB1 : S := S.seq (S.aug 3 (X.ite (X.bin BOp.mod (X.bin BOp.add (X.idx (X.v 1) (X.v 4)) (X.idx (X.tupc [0, 0, 1, 0, 1, 1, 0, 0, 1, 1, 0, 1]) (X.v 4))) (X.c (Sc.int 2))) (X.idx (X.c (Sc.str [97, 98, 99, 100, 101, 102, 103, 104, 105, 106, 107, 108])) (X.v 4)) (X.c (Sc.str [46])))) S.skip
noncomputable def lLaw : S := S.seq (S.asg 1 (X.slU (X.bin BOp.add (X.slU (X.v 0) (X.c (Sc.int 12))) (X.bin BOp.mul (X.l1 (X.c (Sc.int 0))) (X.c (Sc.int 12)))) (X.c (Sc.int 12)))) (S.seq (S.asg 2 (X.idx (X.tupc [3, 4, 6]) (X.bin BOp.mod (X.f1 F1.sum (X.v 1)) (X.c (Sc.int 3))))) (S.seq (S.asg 3 (X.c (Sc.str []))) (S.seq (S.for_ 4 (X.f1 F1.range (X.c (Sc.int 12))) lLawB1) (S.seq (S.asg 5 (X.m0 M0.splitNL (X.f2 F2.encode (X.v 3) (X.bin BOp.add (X.v 2) (X.c (Sc.int 1)))))) (S.seq (S.ifs (X.cmp COp.ne (X.v 5) (X.comp false [2, 3] (X.f3 F3.range (X.c (Sc.int 0)) (X.c (Sc.int 12)) (X.v 2)) none (X.bin BOp.add (X.slB (X.v 2) (X.v 0) (X.bin BOp.add (X.v 0) (X.v 1))) (X.ite (X.cmp COp.lt (X.bin BOp.add (X.v 0) (X.v 1)) (X.c (Sc.int 12))) (X.c (Sc.str [61])) (X.c (Sc.str [])))))) (S.seq (S.ret (X.c (Sc.bool false))) S.skip) S.skip) (S.seq (S.asg 6 (X.comp true [5] (X.f1 F1.range (X.v 2)) none (X.m1 M1.join (X.c (Sc.str [])) (X.comp false [0] (X.v 1) none (X.idx (X.v 0) (X.v 1)))))) (S.seq (S.asg 7 (X.comp false [] (X.v 6) none (X.bin BOp.add (X.m0 M0.replDot (X.v 0)) (X.bin BOp.mul (X.c (Sc.str [46])) (X.m0 M0.countDot (X.v 0)))))) (S.seq (S.asg 8 (X.f1 F1.decode (X.m1 M1.join (X.c (Sc.str [61, 10])) (X.comp true [7] (X.f1 F1.range (X.f1 F1.len (X.v 5))) none (X.m1 M1.join (X.c (Sc.str [])) (X.comp false [0] (X.v 1) none (X.idx (X.v 0) (X.v 1)))))))) (S.seq (S.asg 9 (X.f1 F1.sorted (X.comp2 [] (X.v 6) (X.f1 F1.hooks (X.v 0)) none (X.v 1)))) (S.seq (S.ifs (X.cmp COp.ne (X.v 9) (X.f1 F1.sorted (X.comp false [2] (X.f1 F1.hooks (X.v 3)) (some (X.cmp COp.eq (X.bin BOp.mod (X.v 0) (X.v 1)) (X.c (Sc.int 0)))) (X.bin BOp.fdiv (X.v 0) (X.v 1))))) (S.seq (S.ret (X.c (Sc.bool false))) S.skip) S.skip) (S.seq (S.ifs (X.cmp COp.ne (X.comp false [2] (X.f1 F1.hooks (X.v 8)) (some (X.cmp COp.eq (X.bin BOp.mod (X.v 0) (X.v 1)) (X.c (Sc.int 0)))) (X.v 0)) X.l0) (S.seq (S.ret (X.c (Sc.bool false))) S.skip) S.skip) (S.seq (S.asg 10 (X.m0 M0.replDot (X.v 8))) (S.seq (S.asg 11 (X.bin BOp.mod (X.f1 F1.len (X.comp2 [10] (X.f1 F1.range (X.f1 F1.len (X.v 10))) (X.f1 F1.range (X.v 0)) (some (X.cmp COp.gt (X.idx (X.v 2) (X.v 1)) (X.idx (X.v 2) (X.v 0)))) (X.v 1))) (X.c (Sc.int 2)))) (S.seq (S.asg 12 (X.l3 (X.v 8) (X.f1 F1.len (X.v 9)) (X.v 11))) (S.seq (S.asg 13 (X.m0 M0.encode (X.v 3))) (S.seq (S.ifs (X.cmp COp.ne (X.f3 F3.moved (X.v 13) (X.v 2) (X.comp false [1] (X.f1 F1.range (X.c (Sc.int 13))) none (X.bin BOp.add (X.bin BOp.fdiv (X.idx (X.v 1) (X.bin BOp.mod (X.v 0) (X.c (Sc.int 12)))) (X.c (Sc.int 2))) (X.v 0)))) (X.v 12)) (S.seq (S.ret (X.c (Sc.bool false))) S.skip) S.skip) (S.seq (S.ret (X.cmp COp.eq (X.f3 F3.moved (X.v 13) (X.v 2) (X.bin BOp.mul (X.l1 (X.neg (X.c (Sc.int 1)))) (X.c (Sc.int 13)))) (X.v 12))) S.skip)))))))))))))))))
end Mine

end
section
set_option Elab.async false
set_option linter.all false
set_option maxRecDepth 100000
namespace Mine
/-! the pure reading: parts -/
noncomputable def dots (r : List Nat) : Nat := r.count 46
/-- the parts of a row that is read from its end -/
noncomputable def partsR : List Nat → List Nat
  | [] => []
  | c :: r => if c = 46 then partsR r else dots r :: partsR r
noncomputable def sInt (l : List Nat) : List Sc := l.map fun n : Nat => Sc.int n
theorem partsR_len : ∀ r, (partsR r).length ≤ r.length
  | [] => Nat.le_refl _
  | c :: r => by
    unfold partsR
    have := partsR_len r
    split <;> simp only [List.length_cons] <;> lia
theorem sizeOk_of {n : Nat} (h : n ≤ 100000) : sizeOk n = true := by unfold sizeOk; simpa using h
theorem sInt_len (l : List Nat) : (sInt l).length = l.length := by simp [sInt]
theorem partsB1_run (Φ : Fns) (text : D) (c : Nat) (done : List Nat) (h : done.length ≤ 1000) :
    exec Φ lPartsB1 [text, .own (sInt (partsR done)), .sc (.int (dots done)), .sc (.str [c])] = some (.next, [text, .own (sInt (partsR (c :: done))), .sc (.int (dots (c :: done))), .sc (.str [c])]) := by
  have hsz : sizeOk (sInt (partsR done)).length = true := sizeOk_of (by rw [sInt_len]; have := partsR_len done; lia)
  by_cases h46 : c = 46
  · subst h46
    simp [lPartsB1, exq_skip, exq_seq, exq_asg, exq_aug, exq_ifs, exq_for_, exq_ret, exq_retOwn, exq_brk, exq_cont, exq_newOwn, exq_app, exq_ins0, exq_newBA, exq_alias, exq_bmc, exq_setBA, andThen, ownAt, baAt, bmAt, D.own?, D.ba?, D.bm?, D.int?, asSc, scInt, evq_c, evq_v, evq_g, evq_bin, evq_neg, evq_cmp, evq_ite, evq_and, evq_not, evq_idx, evq_slN, evq_slL, evq_slU, evq_slB, evq_l0, evq_l1, evq_l3, evq_tupc, evq_f1, evq_f2, evq_f3, evq_m0, evq_m1, readable, cmpop, cmpSc, scStr, D.list?, cmpI, cmpS, cmpL, oneN, truthy, Option.bind_some, truthyS, augop, augSc, Option.map_some, partsR, dots]
  · have hsz' : sizeOk (partsR done).length = true := by rw [sInt_len] at hsz; exact hsz
    simp [lPartsB1, exq_skip, exq_seq, exq_asg, exq_aug, exq_ifs, exq_for_, exq_ret, exq_retOwn, exq_brk, exq_cont, exq_newOwn, exq_app, exq_ins0, exq_newBA, exq_alias, exq_bmc, exq_setBA, andThen, ownAt, baAt, bmAt, D.own?, D.ba?, D.bm?, D.int?, asSc, scInt, evq_c, evq_v, evq_g, evq_bin, evq_neg, evq_cmp, evq_ite, evq_and, evq_not, evq_idx, evq_slN, evq_slL, evq_slU, evq_slB, evq_l0, evq_l1, evq_l3, evq_tupc, evq_f1, evq_f2, evq_f3, evq_m0, evq_m1, readable, cmpop, cmpSc, scStr, D.list?, cmpI, cmpS, cmpL, oneN, truthy, Option.bind_some, truthyS, partsR, dots, h46, hsz', sInt]
/-- the turns of the loop of parts -/
theorem parts_loop (Φ : Fns) (text : D) : ∀ (r done : List Nat) (d : D), ownish d = false → done.length + r.length ≤ 1000 → ∃ d', ownish d' = false ∧
    forL (exec Φ lPartsB1) 3 (r.map fun c => .sc (.str [c])) [text, .own (sInt (partsR done)), .sc (.int (dots done)), d] =
    some (.next, [text, .own (sInt (partsR (r.reverse ++ done))), .sc (.int (dots (r.reverse ++ done))), d'])
  | [], done, d, hd, _ => ⟨d, hd, rfl⟩
  | c :: r, done, d, hd, hl => by
    have hl' : (c :: done).length + r.length ≤ 1000 := by simp only [List.length_cons] at hl ⊢; lia
    obtain ⟨d', hd', ih⟩ := parts_loop Φ text r (c :: done) (.sc (.str [c])) rfl hl'
    refine ⟨d', hd', ?_⟩
    have e : (c :: r).reverse ++ done = r.reverse ++ c :: done := by simp
    have hf : freeAt [text, .own (sInt (partsR done)), .sc (.int (dots done)), d] 3 = true := by simp [freeAt, hd]
    rw [e, ← ih, List.map_cons]
    simp only [forL, hf, Bool.true_eq_false, if_false]
    have hb := partsB1_run Φ text c done (by lia)
    simp only [List.set_cons_succ, List.set_cons_zero]
    rw [hb]
    rfl
theorem parts_run (Φ : Fns) {text : List Nat} (h : text.length ≤ 1000) (hc : text.all (· < 128) = true) : runFn Φ lParts 3 [.sc (.str text)] = some (.list (sInt (partsR text.reverse))) := by
  obtain ⟨d', _, hl⟩ := parts_loop Φ (.sc (.str text)) text [] .undef rfl (by simpa using h)
  have hsz : sizeOk text.length = true := sizeOk_of (by lia)
  simp only [List.append_nil] at hl
  have hi : items (.sc (.str text)) = some (text.map fun c => .sc (.str [c])) := by simp only [items, itemsS]; rw [if_pos hc]
  have hl : forL (exec Φ lPartsB1) 3 (text.map fun c => .sc (.str [c])) [.sc (.str text), .own [], .sc (.int 0), .undef] = _ := hl
  simp [runFn, lParts, exq_skip, exq_seq, exq_asg, exq_aug, exq_ifs, exq_for_, exq_ret, exq_retOwn, exq_brk, exq_cont, exq_newOwn, exq_app, exq_ins0, exq_newBA, exq_alias, exq_bmc, exq_setBA, andThen, ownAt, baAt, bmAt, D.own?, D.ba?, D.bm?, D.int?, asSc, scInt, evq_c, evq_v, evq_g, evq_bin, evq_neg, evq_cmp, evq_ite, evq_and, evq_not, evq_idx, evq_slN, evq_slL, evq_slU, evq_slB, evq_l0, evq_l1, evq_l3, evq_tupc, evq_f1, evq_f2, evq_f3, evq_m0, evq_m1, clean, ownish, freeAt, readable, hi, hsz, hl, List.replicate]
end Mine

end
section
set_option Elab.async false
set_option linter.all false
set_option maxRecDepth 100000
namespace Mine
section
variable {Φ : Fns} {ρ ρ1 : List D} {a b : S} {i : Nat} {e t : X} {d x : D} {f : Fl}
theorem bind_at {α β : Type} {o : Option α} {a : α} {k : α → Option β} (h : o = some a) : o.bind k = k a := congrArg (Option.bind · k) h
theorem x_seq (h : exec Φ a ρ = some (.next, ρ1)) : exec Φ (.seq a b) ρ = exec Φ b ρ1 := bind_at h
theorem x_stop (h : exec Φ a ρ = some (f, ρ1)) (hf : f ≠ .next) : exec Φ (.seq a b) ρ = some (f, ρ1) := (bind_at h).trans (by
  cases f with
  | next => exact absurd rfl hf
  | _ => rfl)
theorem x_asg (hf : freeAt ρ i = true) (h : ev Φ e ρ = some d) : exec Φ (.asg i e) ρ = some (.next, ρ.set i d) := (if_pos hf).trans (congrArg (Option.map fun d => (Fl.next, ρ.set i d)) h)
theorem x_aug {y z : D} (h0 : (ρ[i]?).bind readable = some x) (h : ev Φ e ρ = some y) (hz : augop x y = some z) : exec Φ (.aug i e) ρ = some (.next, ρ.set i z) := (bind_at h0).trans ((bind_at h).trans (congrArg (Option.map fun d => (Fl.next, ρ.set i d)) hz))
theorem x_for {l : List D} (h : ev Φ e ρ = some x) (hl : items x = some l) (hz : l.length ≤ 100000) : exec Φ (.for_ i e b) ρ = forL (exec Φ b) i l ρ := (bind_at h).trans ((bind_at hl).trans (if_pos (sizeOk_of hz)))
theorem x_true (h : ev Φ t ρ = some x) (hx : truthy x = some true) : exec Φ (.ifs t a b) ρ = exec Φ a ρ := bind_at ((bind_at h).trans hx)
theorem x_false (h : ev Φ t ρ = some x) (hx : truthy x = some false) : exec Φ (.ifs t a b) ρ = exec Φ b ρ := bind_at ((bind_at h).trans hx)
theorem x_ret (h : ev Φ e (ρ.map freeze) = some d) (hc : (clean ρ || isSc d) = true) : exec Φ (.ret e) ρ = some (.ret d, ρ) := (bind_at h).trans (if_pos hc)
theorem ownAt_of {l : List Sc} (h : ρ[i]? = some (.own l)) : ownAt ρ i = some l := bind_at h
theorem bmAt_of {j : Nat} (h : ρ[j]? = some (.bm i)) : bmAt ρ j = some i := bind_at h
theorem baAt_of {l : List UInt8} (h : ρ[i]? = some (.ba l)) : baAt ρ i = some l := bind_at h
theorem x_bmc {j : Nat} {l : List Sc} {c : Sc} {ρ' : List D} (h1 : ρ[j]? = some (.bm i)) (h2 : ρ[i]? = some (.own l)) (h : ev Φ e ρ = some x) (hc : asSc x = some c) (hz : sizeOk l.length = true) (e2 : ρ.set i (.own (l ++ [c])) = ρ') : exec Φ (.bmc j e) ρ = some (.next, ρ') :=
  (bind_at (bmAt_of h1)).trans ((bind_at (ownAt_of h2)).trans ((bind_at h).trans ((bind_at hc).trans ((if_pos hz).trans (congrArg (fun r => some (Fl.next, r)) e2)))))
theorem x_while : exec Φ (.while_ t a) ρ = whileL (fun ρ => (ev Φ t ρ).bind truthy) (exec Φ a) fuel ρ := rfl
theorem run_ret {z : D} {body : S} {n : Nat} {args : List D} (h : exec Φ body (args ++ List.replicate n .undef) = some (.ret d, ρ1)) (hr : readable d = some z) : runFn Φ body n args = some z := by
  simp only [runFn, h, hr]
theorem free_step {α : Type} {o : Option α} (hf : freeAt ρ i = true) : (if freeAt ρ i = false then none else o) = o := if_neg (by rw [hf]; exact fun h => nomatch h)
theorem f_cons {body : List D → Option (Fl × List D)} {l : List D} (hf : freeAt ρ i = true) (h : body (ρ.set i d) = some (.next, ρ1)) : forL body i (d :: l) ρ = forL body i l ρ1 := (free_step hf).trans (bind_at h)
theorem f_brk {body : List D → Option (Fl × List D)} {l : List D} (hf : freeAt ρ i = true) (h : body (ρ.set i d) = some (.brk, ρ1)) : forL body i (d :: l) ρ = some (.next, ρ1) := (free_step hf).trans (bind_at h)
theorem w_turn {test : List D → Option Bool} {body : List D → Option (Fl × List D)} {n : Nat} (ht : test ρ = some true) (h : body ρ = some (.next, ρ1)) : whileL test body (n + 1) ρ = whileL test body n ρ1 := (bind_at ht).trans (bind_at h)
theorem w_cont {test : List D → Option Bool} {body : List D → Option (Fl × List D)} {n : Nat} (ht : test ρ = some true) (h : body ρ = some (.cont, ρ1)) : whileL test body (n + 1) ρ = whileL test body n ρ1 := (bind_at ht).trans (bind_at h)
theorem w_end {test : List D → Option Bool} {body : List D → Option (Fl × List D)} {n : Nat} (ht : test ρ = some false) : whileL test body (n + 1) ρ = some (.next, ρ) := bind_at ht
end
theorem sliceGo_of {n : Nat} {lo hi : Option D} {k : Nat → Nat → D} {a b : Option Int} (hz : sizeOk n = true) (ha : lim lo = some a) (hb : lim hi = some b) : sliceGo n lo hi k = some (k (loI a n) (hiI b n)) := (if_neg (by rw [hz]; exact fun h => nomatch h)).trans ((bind_at ha).trans (bind_at hb))
theorem lim_int {a : Int} (h : smallI a = true) : lim (some (.sc (.int a))) = some (some a) := if_pos h
theorem lim_none : lim none = some none := rfl
theorem small_nat {n : Nat} (h : n ≤ 1000000) : smallI (n : Int) = true := by unfold smallI; simp; lia
theorem small_int {i : Int} (h : -1000000 ≤ i) (h' : i ≤ 1000000) : smallI i = true := by unfold smallI; simp [h, h']
noncomputable def natD (n : Nat) : D := .sc (.int n)
theorem rangeL_one (n : Nat) : rangeL 0 n 1 = (List.range n).map fun i : Nat => (i : Int) := by
  unfold rangeL
  have : (((n : Int) - 0 + 1 - 1) / 1).toNat = n := by simp
  rw [this]
  simp
theorem rangeL_from (a n : Nat) : rangeL a (a + n : Nat) 1 = (List.range' a n).map fun i : Nat => (i : Int) := by
  unfold rangeL
  have : (((a + n : Nat) : Int) - a + 1 - 1) / 1 = (n : Int) := by simp; lia
  rw [this, Int.toNat_natCast, List.range'_eq_map_range, List.map_map]
  apply List.map_congr_left
  intro i _
  simp
theorem mkRng_ok {a b c : Int} (ha : smallI a = true) (hb : smallI b = true) (hc : smallI c = true) (h0 : 0 < c) : mkRng a b c = some (.rng a b c) := by
  simp [mkRng, ha, hb, hc, h0]
theorem items_rng {a b c : Int} (ha : smallI a = true) (hb : smallI b = true) (hc : smallI c = true) (h0 : 0 < c) : items (.rng a b c) = some ((rangeL a b c).map fun i => .sc (.int i)) := by
  simp [items, itemsS, ha, hb, hc, h0]
theorem range1 (Φ : Fns) {n : Nat} (h : n ≤ 1000000) : fn1 Φ .range (.sc (.int n)) = some (.rng 0 n 1) := mkRng_ok (by decide) (small_nat h) (by decide) (by decide)
theorem items1 {n : Nat} (h : n ≤ 1000000) : items (.rng 0 n 1) = some ((List.range' 0 n).map natD) := by
  rw [items_rng (by decide) (small_nat h) (by decide) (by decide), rangeL_one, List.map_map, List.range_eq_range']
  rfl
theorem items2 {a n : Nat} (ha : a ≤ 1000000) (h : a + n ≤ 1000000) : items (.rng a (a + n : Nat) 1) = some ((List.range' a n).map natD) := by
  rw [items_rng (small_nat ha) (small_nat h) (by decide) (by decide), rangeL_from, List.map_map]
  rfl
end Mine

end
section
set_option Elab.async false
set_option linter.all false
set_option maxRecDepth 100000
namespace Mine
theorem swapB1_run (Φ : Fns) {l m : List UInt8} {j : Nat} (hj : j < l.length) (hl : l.length ≤ 1000) (hm : m.length = l.length) :
    exec Φ lSwapB1 [.sc (.bytes l), .sc (.int l.length), .ba m, .sc (.int 0), .sc (.int j)] = some (.next, [.sc (.bytes l), .sc (.int l.length), .ba (m.set (l.length - 1 - j) l[j]), .sc (.int 0), .sc (.int j)]) := by
  have e1 : ((0 : Int) + l.length - 1 - j) = ((l.length - 1 - j : Nat) : Int) := by lia
  have e2 : ((0 : Int) + j) = (j : Int) := by lia
  have hs1 : smallI ((l.length - 1 - j : Nat) : Int) = true := small_nat (by lia)
  have hs2 : smallI (j : Int) = true := small_nat (by lia)
  have hz : sizeOk l.length = true := sizeOk_of (by lia)
  have hz' : sizeOk m.length = true := by rw [hm]; exact hz
  have h1 : 0 ≤ ((l.length - 1 - j : Nat) : Int) := Int.natCast_nonneg _
  have h2 : ((l.length - 1 - j : Nat) : Int) < m.length := by lia
  have h3 : (0 : Int) ≤ (l[j].toNat : Nat) := Int.natCast_nonneg _
  have h4 : ((l[j].toNat : Nat) : Int) < 256 := by have := l[j].toNat_lt; lia
  have hget : l[j]? = some l[j] := List.getElem?_eq_getElem hj
  have hi : index (.sc (.bytes l)) (.sc (.int j)) = some (.sc (.int (l[j].toNat : Nat))) := by
    simp only [index, D.int?, asSc, scInt, Option.bind_some, idx, idxL, idxS]
    rw [if_pos ⟨Int.natCast_nonneg _, hs2, hz⟩]
    simp [hget]
  simp only [lSwapB1, exq_skip, exq_seq, exq_asg, exq_aug, exq_ifs, exq_for_, exq_ret, exq_retOwn, exq_brk, exq_cont, exq_newOwn, exq_app, exq_ins0, exq_newBA, exq_alias, exq_bmc, exq_setBA, andThen, ownAt, baAt, bmAt, D.own?, D.ba?, D.bm?, D.int?, asSc, scInt, evq_c, evq_v, evq_g, evq_bin, evq_neg, evq_cmp, evq_ite, evq_and, evq_not, evq_idx, evq_slN, evq_slL, evq_slU, evq_slB, evq_l0, evq_l1, evq_l3, evq_tupc, evq_f1, evq_f2, evq_f3, evq_m0, evq_m1, List.getElem?_cons_zero, List.getElem?_cons_succ, readable, Option.bind_some, binop, binSc, binStr, binList, scBytes, binI, binS, binB, binLL, mulS, mulL, oneS, oneN, isAdd, isMul, Bool.true_and, e1, e2, hi]
  rw [if_pos ⟨h1, h2, h3, h4, hs1, hz'⟩]
  simp
theorem swap_loop (Φ : Fns) {l : List UInt8} (hl : l.length ≤ 1000) : ∀ (k a : Nat) (d : D), ownish d = false → a + k = l.length →
    ∃ d', ownish d' = false ∧ forL (exec Φ lSwapB1) 4 ((List.range' a k).map natD) [.sc (.bytes l), .sc (.int l.length), .ba (List.replicate (l.length - a) 0 ++ (l.take a).reverse), .sc (.int 0), d] =
      some (.next, [.sc (.bytes l), .sc (.int l.length), .ba l.reverse, .sc (.int 0), d'])
  | 0, a, d, hd, ha => by
    refine ⟨d, hd, ?_⟩
    have : a = l.length := by lia
    subst this
    simp [forL, List.range']
  | k + 1, a, d, hd, ha => by
    obtain ⟨d', hd', ih⟩ := swap_loop Φ hl k (a + 1) (.sc (.int a)) rfl (by lia)
    refine ⟨d', hd', ?_⟩
    rw [← ih, List.range'_succ, List.map_cons]
    have hf : freeAt [D.sc (.bytes l), .sc (.int l.length), .ba (List.replicate (l.length - a) 0 ++ (l.take a).reverse), .sc (.int 0), d] 4 = true := by simp [freeAt, hd]
    simp only [forL, hf, Bool.true_eq_false, if_false, List.set_cons_succ, List.set_cons_zero]
    have hm : (List.replicate (l.length - a) (0 : UInt8) ++ (l.take a).reverse).length = l.length := by simp; lia
    have hb := swapB1_run Φ (j := a) (by lia) hl hm
    change (Option.bind (exec Φ lSwapB1 [.sc (.bytes l), .sc (.int l.length), .ba (List.replicate (l.length - a) 0 ++ (l.take a).reverse), .sc (.int 0), .sc (.int a)]) _) = _
    rw [hb]
    have e : (List.replicate (l.length - a) (0 : UInt8) ++ (l.take a).reverse).set (l.length - 1 - a) (l[a]'(by lia)) = List.replicate (l.length - (a + 1)) 0 ++ (l.take (a + 1)).reverse := by
      have e0 : l.length - a = (l.length - (a + 1)) + 1 := by lia
      rw [e0, List.replicate_succ', List.append_assoc, List.take_add_one, List.getElem?_eq_getElem (by lia : a < l.length)]
      simp only [Option.toList_some, List.reverse_append, List.reverse_cons, List.reverse_nil, List.nil_append, List.singleton_append]
      rw [List.set_append_right _ _ (by simp; lia)]
      congr 1
      have : l.length - 1 - a - (List.replicate (l.length - (a + 1)) (0 : UInt8)).length = 0 := by simp; lia
      rw [this]; rfl
    rw [e]
    rfl
theorem swap_run (Φ : Fns) {l : List UInt8} (hl : l.length ≤ 1000) (h1 : 1 ≤ l.length) : runFn Φ lSwap 3 [.sc (.bytes l), .sc (.int l.length)] = some (.sc (.bytes l.reverse)) := by
  have hz : sizeOk l.length = true := sizeOk_of (by lia)
  have hs : smallI (l.length : Int) = true := small_nat (by lia)
  have h0 : (0 : Int) < l.length := by lia
  have hr : items (.rng 0 l.length l.length) = some [natD 0] := by
    rw [items_rng (by decide) hs hs h0]
    have e : (((l.length : Int) - 0 + l.length - 1) / l.length).toNat = 1 := by
      have : ((l.length : Int) - 0 + l.length - 1) / l.length = 1 := by
        have e2 : ((l.length : Int) - 0 + l.length - 1) = (l.length - 1) + l.length := by lia
        rw [e2, Int.add_ediv_of_dvd_right (Int.dvd_refl _), Int.ediv_self (by lia), Int.ediv_eq_zero_of_lt (by lia) (by lia)]; rfl
      rw [this]; rfl
    unfold rangeL
    rw [e]
    simp [natD]
  obtain ⟨d', hd', hloop⟩ := swap_loop Φ hl l.length 0 .undef rfl (by lia)
  simp only [Nat.sub_zero, List.take_zero, List.reverse_nil, List.append_nil] at hloop
  have hlen : ev Φ (X.f1 F1.len (X.v 0)) [.sc (.bytes l), .sc (.int l.length), .undef, .undef, .undef] = some (.sc (.int l.length)) := by
    simp only [evq_c, evq_v, evq_g, evq_bin, evq_neg, evq_cmp, evq_ite, evq_and, evq_not, evq_idx, evq_slN, evq_slL, evq_slU, evq_slB, evq_l0, evq_l1, evq_l3, evq_tupc, evq_f1, evq_f2, evq_f3, evq_m0, evq_m1, List.getElem?_cons_zero, readable, Option.bind_some, fn1, lenOf, lenS, D.list?, D.int?, D.fba?, asSc, scInt, hz, if_true]
  have s1 : exec Φ (S.newBA 2 (X.f1 F1.len (X.v 0))) [.sc (.bytes l), .sc (.int l.length), .undef, .undef, .undef] = some (.next, [.sc (.bytes l), .sc (.int l.length), .ba (List.replicate l.length 0), .undef, .undef]) := by
    simp only [exq_skip, exq_seq, exq_asg, exq_aug, exq_ifs, exq_for_, exq_ret, exq_retOwn, exq_brk, exq_cont, exq_newOwn, exq_app, exq_ins0, exq_newBA, exq_alias, exq_bmc, exq_setBA, andThen, ownAt, baAt, bmAt, D.own?, D.ba?, D.bm?, D.int?, asSc, scInt, hlen, Option.bind_some]
    rw [if_pos ⟨by lia, by lia, rfl⟩]
    rfl
  have s2 : exec Φ lSwapB2 [.sc (.bytes l), .sc (.int l.length), .ba (List.replicate l.length 0), natD 0, .undef] = some (.next, [.sc (.bytes l), .sc (.int l.length), .ba l.reverse, natD 0, d']) := by
    unfold lSwapB2
    refine (x_seq ((x_for (x := .rng 0 l.length 1) ?_ (items1 (by lia)) (by simp; lia)).trans hloop)).trans rfl
    simp only [evq_c, evq_v, evq_g, evq_bin, evq_neg, evq_cmp, evq_ite, evq_and, evq_not, evq_idx, evq_slN, evq_slL, evq_slU, evq_slB, evq_l0, evq_l1, evq_l3, evq_tupc, evq_f1, evq_f2, evq_f3, evq_m0, evq_m1, List.getElem?_cons_zero, List.getElem?_cons_succ, readable, Option.bind_some]
    exact range1 Φ (by lia)
  have s3 : exec Φ (S.for_ 3 (X.f3 F3.range (X.c (Sc.int 0)) (X.f1 F1.len (X.v 0)) (X.v 1)) lSwapB2) [.sc (.bytes l), .sc (.int l.length), .ba (List.replicate l.length 0), .undef, .undef] = some (.next, [.sc (.bytes l), .sc (.int l.length), .ba l.reverse, natD 0, d']) := by
    refine (x_for (x := .rng 0 l.length l.length) ?_ hr (by simp)).trans ((f_cons rfl s2).trans rfl)
    simp only [evq_c, evq_v, evq_g, evq_bin, evq_neg, evq_cmp, evq_ite, evq_and, evq_not, evq_idx, evq_slN, evq_slL, evq_slU, evq_slB, evq_l0, evq_l1, evq_l3, evq_tupc, evq_f1, evq_f2, evq_f3, evq_m0, evq_m1, List.getElem?_cons_zero, List.getElem?_cons_succ, readable, Option.bind_some, fn1, lenOf, lenS, D.list?, D.int?, D.fba?, asSc, scInt, hz, if_true, fn3]
    exact mkRng_ok (by decide) hs hs h0
  refine run_ret (z := .sc (.bytes l.reverse)) (d := .sc (.bytes l.reverse)) (ρ1 := [.sc (.bytes l), .sc (.int l.length), .ba l.reverse, natD 0, d']) ?_ rfl
  show exec Φ lSwap [.sc (.bytes l), .sc (.int l.length), .undef, .undef, .undef] = _
  unfold lSwap
  rw [x_seq s1, x_seq s3]
  refine x_stop (x_ret ?_ (by simp [isSc])) (fun e => nomatch e)
  have hz' : sizeOk l.reverse.length = true := by simpa using hz
  simp only [List.map_cons, freeze, evq_c, evq_v, evq_g, evq_bin, evq_neg, evq_cmp, evq_ite, evq_and, evq_not, evq_idx, evq_slN, evq_slL, evq_slU, evq_slB, evq_l0, evq_l1, evq_l3, evq_tupc, evq_f1, evq_f2, evq_f3, evq_m0, evq_m1, List.getElem?_cons_zero, List.getElem?_cons_succ, readable, Option.bind_some, fn1, lenOf, lenS, D.list?, D.int?, D.fba?, asSc, scInt, hz', if_true]
end Mine

end
section
set_option Elab.async false
set_option linter.all false
set_option maxRecDepth 100000
namespace Mine
theorem collect_filter {α : Type} {f : D → Option (List Sc)} {g : α → D} {p : α → Bool} {h : α → Sc} : ∀ {l : List α}, (∀ a ∈ l, f (g a) = some (if p a then [h a] else [])) → collect f (l.map g) = some ((l.filter p).map h)
  | [], _ => rfl
  | a :: l, hf => by
    have ih := collect_filter (l := l) fun b hb => hf b (List.mem_cons_of_mem _ hb)
    simp only [List.map_cons, collect, hf a (List.mem_cons_self ..), ih, Option.bind_some, Option.map_some, List.filter_cons]
    cases p a <;> rfl
theorem collect_map {α : Type} {f : D → Option (List Sc)} {g : α → D} {h : α → Sc} {l : List α} (hf : ∀ a ∈ l, f (g a) = some [h a]) : collect f (l.map g) = some (l.map h) := by
  have := collect_filter (p := fun _ => true) (h := h) (l := l) (f := f) (g := g) (fun a ha => by rw [hf a ha]; rfl)
  rw [this, List.filter_eq_self.mpr (fun _ _ => rfl)]
noncomputable def natS (n : Nat) : Sc := .int n
theorem sInt_D (l : List Nat) : (sInt l).map D.sc = l.map natD := by simp [sInt, natD, Function.comp_def]
theorem sInt_get {l : List Nat} {i : Nat} (h : i < l.length) : (sInt l)[i]? = some (.int (l[i] : Nat)) := by simp [sInt, h]
theorem sInt_take (l : List Nat) (n : Nat) : (sInt l).take n = sInt (l.take n) := by simp [sInt, List.map_take]
theorem sInt_drop (l : List Nat) (n : Nat) : (sInt l).drop n = sInt (l.drop n) := by simp [sInt, List.map_drop]
theorem sInt_app (l m : List Nat) : sInt l ++ sInt m = sInt (l ++ m) := by simp [sInt]

/-- the hooks of a list of parts -/
noncomputable def hkOf : List Nat → List Nat
  | [] => []
  | p :: rest => ((List.range p).map fun s => p - s - 1 + (rest.filter fun q => decide (s < q)).length + 1) ++ hkOf rest
theorem index_nat {l : List Nat} {i : Nat} (h : i < l.length) (hl : l.length ≤ 1000) : index (.list (sInt l)) (.sc (.int i)) = some (natD l[i]) := by
  simp only [index, D.int?, asSc, scInt, Option.bind_some, idx, idxL, idxS]
  rw [if_pos ⟨Int.natCast_nonneg _, small_nat (by lia)⟩]
  simp [sInt_get h, natD]
theorem hooksB1_run (Φ : Fns) {t d5 d6 : D} {ps acc : List Nat} {r s : Nat} (hr : r < ps.length) (hl : ps.length ≤ 1000) (hs : s < ps[r]) (ha : acc.length ≤ 100000) (h5 : ownish d5 = false) (h6 : ownish d6 = false) : ∃ e5 e6, ownish e5 = false ∧ ownish e6 = false ∧
    exec Φ lHooksB1 [t, .list (sInt ps), .own (sInt acc), natD r, natD s, d5, d6] = some (.next, [t, .list (sInt ps), .own (sInt (acc ++ [ps[r] - s - 1 + ((ps.drop (r + 1)).filter fun q => decide (s < q)).length + 1])), natD r, natD s, e5, e6]) := by
  have hz : sizeOk ps.length = true := sizeOk_of (by lia)
  have i1 := index_nat hr hl
  have e1 : ((ps[r] : Nat) : Int) - s - 1 = ((ps[r] - s - 1 : Nat) : Int) := by lia
  have a1 : exec Φ (S.asg 5 (X.bin BOp.sub (X.bin BOp.sub (X.idx (X.v 1) (X.v 3)) (X.v 4)) (X.c (Sc.int 1)))) [t, .list (sInt ps), .own (sInt acc), natD r, natD s, d5, d6] = some (.next, [t, .list (sInt ps), .own (sInt acc), natD r, natD s, natD (ps[r] - s - 1), d6]) := by
    refine (x_asg (d := natD (ps[r] - s - 1)) (by simp [freeAt, h5]) ?_).trans rfl
    have i1' : index (.list (sInt ps)) (natD r) = some (natD ps[r]) := i1
    simp only [evq_comp0, evq_comp1, evq_c, evq_v, evq_g, evq_bin, evq_neg, evq_cmp, evq_ite, evq_and, evq_not, evq_idx, evq_slN, evq_slL, evq_slU, evq_slB, evq_l0, evq_l1, evq_l3, evq_tupc, evq_f1, evq_f2, evq_f3, evq_m0, evq_m1, List.getElem?_cons_zero, List.getElem?_cons_succ, natD, readable, Option.bind_some]
    have i1'' : index (.list (sInt ps)) (.sc (.int r)) = some (.sc (.int (ps[r] : Nat))) := i1
    simp only [i1'', Option.bind_some, binop, binSc, binStr, binList, asSc, scInt, scBytes, binI, binS, binB, binLL, mulS, mulL, oneS, oneN, isAdd, isMul, Bool.true_and, e1]
  have sl : slice (.list (sInt ps)) (some (.sc (.int ((r : Int) + 1)))) none = some (.list (sInt (ps.drop (r + 1)))) := by
    have e : ((r : Int) + 1) = ((r + 1 : Nat) : Int) := by lia
    have hb : bnd ((r + 1 : Nat) : Int) ps.length = r + 1 := by
      unfold bnd
      rw [if_pos (Int.natCast_nonneg _)]
      simp; lia
    show sliceGo (sInt ps).length (some (.sc (.int ((r : Int) + 1)))) none (fun a b => .list (cut (sInt ps) a b)) = _
    have hs : smallI ((r : Int) + 1) = true := by rw [e]; exact small_nat (by lia)
    refine (sliceGo_of (by rw [sInt_len]; exact hz) (lim_int hs) lim_none).trans ?_
    show some (D.list (cut (sInt ps) (bnd ((r : Int) + 1) (sInt ps).length) (sInt ps).length)) = _
    rw [e, sInt_len, hb]
    unfold cut
    rw [sInt_take, sInt_drop]
    simp
  have cp : ev Φ (X.comp false [4] (X.slL (X.v 1) (X.bin BOp.add (X.v 3) (X.c (Sc.int 1)))) (some (X.cmp COp.gt (X.v 0) (X.v 1))) (X.v 0)) [t, .list (sInt ps), .own (sInt acc), natD r, natD s, natD (ps[r] - s - 1), d6] =
      some (.list (((ps.drop (r + 1)).filter fun q => decide (s < q)).map natS)) := by
    simp only [evq_comp0, evq_comp1, evq_c, evq_v, evq_g, evq_bin, evq_neg, evq_cmp, evq_ite, evq_and, evq_not, evq_idx, evq_slN, evq_slL, evq_slU, evq_slB, evq_l0, evq_l1, evq_l3, evq_tupc, evq_f1, evq_f2, evq_f3, evq_m0, evq_m1, List.getElem?_cons_zero, List.getElem?_cons_succ, natD, readable, Option.bind_some, binop, binSc, binStr, binList, asSc, scInt, scBytes, binI, binS, binB, binLL, mulS, mulL, oneS, oneN, isAdd, isMul, Bool.true_and, sl, items, itemsS, List.length_map, sInt_len, List.map_cons, List.map_nil, Option.getD_some]
    rw [if_neg (by rw [sizeOk_of (by simp; lia)]; decide), sInt_D]
    rw [collect_filter (p := fun q => decide (s < q)) (h := natS) (g := natD)]
    · rfl
    · intro q _
      have e : decide ((s : Int) < (q : Int)) = decide (s < q) := by simp
      simp only [natD, List.getElem?_cons_zero, List.getElem?_cons_succ, readable, Option.bind_some, cmpop, cmpSc, asSc, scInt, scStr, D.list?, cmpI, cmpS, cmpL, oneN, Option.map_some, truthy, truthyS, e]
      cases decide (s < q) <;> rfl
  have hz2 : sizeOk ((ps.drop (r + 1)).filter fun q => decide (s < q)).length = true := sizeOk_of (by
    have := List.length_filter_le (fun q => decide (s < q)) (ps.drop (r + 1))
    simp at this ⊢
    lia)
  have a2 : exec Φ (S.asg 6 (X.f1 F1.len (X.comp false [4] (X.slL (X.v 1) (X.bin BOp.add (X.v 3) (X.c (Sc.int 1)))) (some (X.cmp COp.gt (X.v 0) (X.v 1))) (X.v 0)))) [t, .list (sInt ps), .own (sInt acc), natD r, natD s, natD (ps[r] - s - 1), d6] =
      some (.next, [t, .list (sInt ps), .own (sInt acc), natD r, natD s, natD (ps[r] - s - 1), natD ((ps.drop (r + 1)).filter fun q => decide (s < q)).length]) := by
    refine (x_asg (d := natD ((ps.drop (r + 1)).filter fun q => decide (s < q)).length) (by simp [freeAt, h6]) ?_).trans rfl
    show (ev Φ (X.comp _ _ _ _ _) _).bind _ = _
    rw [cp]
    simp only [Option.bind_some, fn1, lenOf, lenS, D.list?, D.int?, D.fba?, asSc, scInt, List.length_map, hz2, if_true, natD]
  refine ⟨natD (ps[r] - s - 1), natD ((ps.drop (r + 1)).filter fun q => decide (s < q)).length, rfl, rfl, ?_⟩
  unfold lHooksB1
  rw [x_seq a1, x_seq a2]
  have hza : sizeOk acc.length = true := sizeOk_of ha
  simp only [exq_skip, exq_seq, exq_asg, exq_aug, exq_ifs, exq_for_, exq_ret, exq_retOwn, exq_brk, exq_cont, exq_newOwn, exq_app, exq_ins0, exq_newBA, exq_alias, exq_bmc, exq_setBA, andThen, ownAt, baAt, bmAt, D.own?, D.ba?, D.bm?, D.int?, asSc, scInt, evq_c, evq_v, evq_g, evq_bin, evq_neg, evq_cmp, evq_ite, evq_and, evq_not, evq_idx, evq_slN, evq_slL, evq_slU, evq_slB, evq_l0, evq_l1, evq_l3, evq_tupc, evq_f1, evq_f2, evq_f3, evq_m0, evq_m1, List.getElem?_cons_zero, List.getElem?_cons_succ, natD, readable, Option.bind_some, binop, binSc, binStr, binList, scBytes, binI, binS, binB, binLL, mulS, mulL, oneS, oneN, isAdd, isMul, Bool.true_and, sInt_len, hza, if_true, List.set_cons_succ, List.set_cons_zero]
  have e3 : ((ps[r] - s - 1 : Nat) : Int) + ((((ps.drop (r + 1)).filter fun q => decide (s < q)).length : Nat) : Int) + 1 = ((ps[r] - s - 1 + ((ps.drop (r + 1)).filter fun q => decide (s < q)).length + 1 : Nat) : Int) := by lia
  rw [e3]
  simp [sInt]
theorem hooks_in (Φ : Fns) {t : D} {ps : List Nat} {r : Nat} (hr : r < ps.length) (hl : ps.length ≤ 1000) : ∀ (k a : Nat) (acc : List Nat) (d4 d5 d6 : D), ownish d4 = false → ownish d5 = false → ownish d6 = false → a + k = ps[r] → acc.length + k ≤ 100000 →
    ∃ e4 e5 e6, ownish e4 = false ∧ ownish e5 = false ∧ ownish e6 = false ∧ forL (exec Φ lHooksB1) 4 ((List.range' a k).map natD) [t, .list (sInt ps), .own (sInt acc), natD r, d4, d5, d6] =
      some (.next, [t, .list (sInt ps), .own (sInt (acc ++ (List.range' a k).map fun s => ps[r] - s - 1 + ((ps.drop (r + 1)).filter fun q => decide (s < q)).length + 1)), natD r, e4, e5, e6])
  | 0, a, acc, d4, d5, d6, h4, h5, h6, _, _ => ⟨d4, d5, d6, h4, h5, h6, by simp [forL, List.range']⟩
  | k + 1, a, acc, d4, d5, d6, h4, h5, h6, ha, hz => by
    obtain ⟨e5, e6, q5, q6, hb⟩ := hooksB1_run Φ (t := t) hr hl (s := a) (acc := acc) (d5 := d5) (d6 := d6) (by lia) (by lia) h5 h6
    obtain ⟨f4, f5, f6, g4, g5, g6, ih⟩ := hooks_in Φ hr hl k (a + 1) (acc ++ [ps[r] - a - 1 + ((ps.drop (r + 1)).filter fun q => decide (a < q)).length + 1]) (natD a) e5 e6 rfl q5 q6 (by lia) (by simp; lia)
    refine ⟨f4, f5, f6, g4, g5, g6, ?_⟩
    rw [List.range'_succ, List.map_cons]
    refine (f_cons (by simp [freeAt, h4]) hb).trans (ih.trans ?_)
    simp
theorem drop_cons {l : List Nat} {r : Nat} (h : r < l.length) : l.drop r = l[r] :: l.drop (r + 1) := List.drop_eq_getElem_cons h
theorem hkOf_drop {ps : List Nat} {r : Nat} (h : r < ps.length) : hkOf (ps.drop r) = ((List.range ps[r]).map fun s => ps[r] - s - 1 + ((ps.drop (r + 1)).filter fun q => decide (s < q)).length + 1) ++ hkOf (ps.drop (r + 1)) := by
  rw [drop_cons h]; rfl
theorem hooks_out (Φ : Fns) {t : D} {ps : List Nat} (hl : ps.length ≤ 1000) : ∀ (k a : Nat) (acc : List Nat) (d3 d4 d5 d6 : D), ownish d3 = false → ownish d4 = false → ownish d5 = false → ownish d6 = false → a + k = ps.length → (acc ++ hkOf (ps.drop a)).length ≤ 1000 →
    ∃ e3 e4 e5 e6, forL (exec Φ lHooksB2) 3 ((List.range' a k).map natD) [t, .list (sInt ps), .own (sInt acc), d3, d4, d5, d6] = some (.next, [t, .list (sInt ps), .own (sInt (acc ++ hkOf (ps.drop a))), e3, e4, e5, e6])
  | 0, a, acc, d3, d4, d5, d6, h3, h4, h5, h6, ha, _ => ⟨d3, d4, d5, d6, by
      have : ps.drop a = [] := List.drop_eq_nil_of_le (by lia)
      rw [this]; simp [forL, List.range', hkOf]⟩
  | k + 1, a, acc, d3, d4, d5, d6, h3, h4, h5, h6, ha, hz => by
    have hr : a < ps.length := by lia
    have hz' := hz
    rw [hkOf_drop hr] at hz'
    simp only [List.length_append, List.length_map, List.length_range] at hz'
    obtain ⟨e4, e5, e6, q4, q5, q6, hin⟩ := hooks_in Φ (t := t) hr hl ps[a] 0 acc d4 d5 d6 h4 h5 h6 (by lia) (by lia)
    rw [← List.range_eq_range'] at hin
    have hb : exec Φ lHooksB2 [t, .list (sInt ps), .own (sInt acc), natD a, d4, d5, d6] = some (.next, [t, .list (sInt ps), .own (sInt (acc ++ (List.range ps[a]).map fun s => ps[a] - s - 1 + ((ps.drop (a + 1)).filter fun q => decide (s < q)).length + 1)), natD a, e4, e5, e6]) := by
      unfold lHooksB2
      refine (x_seq ((x_for (x := .rng 0 ps[a] 1) ?_ (items1 (by lia)) (by simp; lia)).trans ?_)).trans rfl
      · have i1 : index (.list (sInt ps)) (.sc (.int a)) = some (.sc (.int (ps[a] : Nat))) := index_nat hr hl
        simp only [evq_comp0, evq_comp1, evq_c, evq_v, evq_g, evq_bin, evq_neg, evq_cmp, evq_ite, evq_and, evq_not, evq_idx, evq_slN, evq_slL, evq_slU, evq_slB, evq_l0, evq_l1, evq_l3, evq_tupc, evq_f1, evq_f2, evq_f3, evq_m0, evq_m1, List.getElem?_cons_zero, List.getElem?_cons_succ, natD, readable, Option.bind_some, i1]
        exact range1 Φ (by lia)
      · rw [← List.range_eq_range']; exact hin
    obtain ⟨f3, f4, f5, f6, ih⟩ := hooks_out Φ hl k (a + 1) (acc ++ (List.range ps[a]).map fun s => ps[a] - s - 1 + ((ps.drop (a + 1)).filter fun q => decide (s < q)).length + 1) (natD a) e4 e5 e6 rfl q4 q5 q6 (by lia) (by
      simp only [List.length_append, List.length_map, List.length_range]; lia)
    refine ⟨f3, f4, f5, f6, ?_⟩
    rw [List.range'_succ, List.map_cons]
    refine (f_cons (by simp [freeAt, h3]) hb).trans (ih.trans ?_)
    rw [hkOf_drop hr, List.append_assoc]
theorem hooks_run (Φ : Fns) {text ps : List Nat} (hp : Φ.parts (.sc (.str text)) = some (.list (sInt ps))) (hl : ps.length ≤ 1000) (hz : (hkOf ps).length ≤ 1000) : runFn Φ lHooks 6 [.sc (.str text)] = some (.list (sInt (hkOf ps))) := by
  obtain ⟨e3, e4, e5, e6, ho⟩ := hooks_out Φ (t := .sc (.str text)) hl ps.length 0 [] .undef .undef .undef .undef rfl rfl rfl rfl (by lia) (by simpa using hz)
  simp only [List.drop_zero, List.nil_append] at ho
  refine run_ret (d := .list (sInt (hkOf ps))) (ρ1 := [.sc (.str text), .list (sInt ps), .own (sInt (hkOf ps)), e3, e4, e5, e6]) ?_ rfl
  show exec Φ lHooks [.sc (.str text), .undef, .undef, .undef, .undef, .undef, .undef] = _
  unfold lHooks
  have s1 : exec Φ (S.asg 1 (X.f1 F1.parts (X.v 0))) [.sc (.str text), .undef, .undef, .undef, .undef, .undef, .undef] = some (.next, [.sc (.str text), .list (sInt ps), .undef, .undef, .undef, .undef, .undef]) :=
    (x_asg (d := .list (sInt ps)) rfl (by simp only [evq_comp0, evq_comp1, evq_c, evq_v, evq_g, evq_bin, evq_neg, evq_cmp, evq_ite, evq_and, evq_not, evq_idx, evq_slN, evq_slL, evq_slU, evq_slB, evq_l0, evq_l1, evq_l3, evq_tupc, evq_f1, evq_f2, evq_f3, evq_m0, evq_m1, List.getElem?_cons_zero, readable, Option.bind_some, fn1, lenOf, lenS, D.list?, D.int?, D.fba?, asSc, scInt, hp])).trans rfl
  have s2 : exec Φ (S.newOwn 2) [.sc (.str text), .list (sInt ps), .undef, .undef, .undef, .undef, .undef] = some (.next, [.sc (.str text), .list (sInt ps), .own (sInt []), .undef, .undef, .undef, .undef]) := rfl
  rw [x_seq s1, x_seq s2]
  have s3 : exec Φ (S.for_ 3 (X.f1 F1.range (X.f1 F1.len (X.v 1))) lHooksB2) [.sc (.str text), .list (sInt ps), .own (sInt []), .undef, .undef, .undef, .undef] = some (.next, [.sc (.str text), .list (sInt ps), .own (sInt (hkOf ps)), e3, e4, e5, e6]) := by
    refine (x_for (x := .rng 0 ps.length 1) ?_ (items1 (by lia)) (by simp; lia)).trans ho
    simp only [evq_comp0, evq_comp1, evq_c, evq_v, evq_g, evq_bin, evq_neg, evq_cmp, evq_ite, evq_and, evq_not, evq_idx, evq_slN, evq_slL, evq_slU, evq_slB, evq_l0, evq_l1, evq_l3, evq_tupc, evq_f1, evq_f2, evq_f3, evq_m0, evq_m1, List.getElem?_cons_zero, List.getElem?_cons_succ, readable, Option.bind_some, fn1, lenOf, lenS, D.list?, D.int?, D.fba?, asSc, scInt, sInt_len, sizeOk_of (show ps.length ≤ 100000 by lia), if_true]
    exact range1 Φ (by lia)
  rw [x_seq s3]
  exact x_stop rfl (fun e => nomatch e)
end Mine

end
section
set_option Elab.async false
set_option linter.all false
set_option maxRecDepth 100000
namespace Mine
theorem index_str {l : List Nat} {i : Nat} (h : i < l.length) (hl : l.length ≤ 1000) : index (.sc (.str l)) (.sc (.int i)) = some (.sc (.str [l[i]])) := by
  simp only [index, D.int?, asSc, scInt, Option.bind_some, idx, idxL, idxS, small_nat (show i ≤ 1000000 by lia), if_true]
  have : place (i : Int) l.length = some i := by
    unfold place
    rw [if_pos (Int.natCast_nonneg _), if_pos (by lia)]; rfl
  simp [this, h]
theorem index_last {l : List Nat} (h : 0 < l.length) : index (.sc (.str l)) (.sc (.int (-1))) = some (.sc (.str [l[l.length - 1]])) := by
  have hs : smallI (-1) = true := by decide
  simp only [index, D.int?, asSc, scInt, Option.bind_some, idx, idxL, idxS, hs, if_true]
  have : place (-1) l.length = some (l.length - 1) := by
    unfold place
    rw [if_neg (by decide), if_pos (by lia)]
    congr 1; lia
  simp [this, h]
theorem bnd_nat {a n : Nat} (h : a ≤ n) : bnd (a : Int) n = a := by
  unfold bnd
  rw [if_pos (Int.natCast_nonneg _), Int.toNat_natCast]; lia
theorem slice_str {l : List Nat} {a b : Nat} (ha : a ≤ l.length) (hb : b ≤ l.length) (hl : l.length ≤ 1000) : slice (.sc (.str l)) (some (.sc (.int a))) (some (.sc (.int b))) = some (.sc (.str (cut l a b))) := by
  simp only [slice, sliceS, sliceGo, lim, D.int?, asSc, scInt, Option.bind_some, loI, hiI, sizeOk_of (show l.length ≤ 100000 by lia), Bool.true_eq_false, if_false, small_nat (show a ≤ 1000000 by lia), small_nat (show b ≤ 1000000 by lia), Bool.and_self, if_true, bnd_nat ha, bnd_nat hb]
theorem slice_strL {l : List Nat} {a : Nat} (ha : a ≤ l.length) (hl : l.length ≤ 1000) : slice (.sc (.str l)) (some (.sc (.int a))) none = some (.sc (.str (l.drop a))) := by
  simp only [slice, sliceS, sliceGo, lim, D.int?, asSc, scInt, Option.bind_some, loI, hiI, sizeOk_of (show l.length ≤ 100000 by lia), Bool.true_eq_false, if_false, small_nat (show a ≤ 1000000 by lia), if_true, bnd_nat ha, cut, List.take_length]
theorem cut_len {α : Type} {l : List α} {a b : Nat} (h : a ≤ b) (hb : b ≤ l.length) : (cut l a b).length = b - a := by simp [cut]; lia
noncomputable def strS (l : List Nat) : Sc := .str l
noncomputable def strD (l : List Nat) : D := .sc (.str l)

/-- the variables of body_encode at work -/
noncomputable def eV (l : List Nat) (k : Nat) (acc : List (List Nat)) (st : Nat) (ls : Int) (d10 : D) : List D :=
  [strD l, natD (k + 1), strD [10], strD [61, 10], natD k, .own (acc.map strS), .bm 5, strD l, natD st, .sc (.int ls), d10, .undef, .undef]
theorem bmc_run {Φ : Fns} {l : List Nat} {k : Nat} {acc : List (List Nat)} {st : Nat} {ls : Int} {d10 : D} {e : X} {x : List Nat} (he : ev Φ e (eV l k acc st ls d10) = some (strD x)) (ha : acc.length ≤ 1000) :
    exec Φ (S.bmc 6 e) (eV l k acc st ls d10) = some (.next, eV l k (acc ++ [x]) st ls d10) := by
  have h1 : (eV l k acc st ls d10)[6]? = some (.bm 5) := rfl
  have h2 : (eV l k acc st ls d10)[5]? = some (.own (acc.map strS)) := rfl
  have hz : sizeOk (acc.map strS).length = true := sizeOk_of (by simp; lia)
  have hs : asSc (strD x) = some (.str x) := rfl
  have e2 : (eV l k acc st ls d10).set 5 (.own (acc.map strS ++ [.str x])) = eV l k (acc ++ [x]) st ls d10 := by simp [eV, strS]
  exact x_bmc h1 h2 he hs hz e2
theorem encB1_turn (Φ : Fns) {l : List Nat} {k st : Nat} {acc : List (List Nat)} {ls : Int} {d10 : D} (hk : 3 ≤ k) (hst : st + k ≤ l.length) (hl : l.length ≤ 1000) (hq : ∀ c ∈ l, c ≠ 61) (ha : acc.length ≤ 1000) (h10 : ownish d10 = false) :
    exec Φ lEncB1 (eV l k acc st ls d10) = some (.next, eV l k (acc ++ [cut l st (st + k) ++ [61]]) (st + k) ls (natD (st + k))) := by
  have a1 : exec Φ (S.asg 10 (X.bin BOp.add (X.v 8) (X.v 4))) (eV l k acc st ls d10) = some (.next, eV l k acc st ls (natD (st + k))) := by
    refine (x_asg (d := natD (st + k)) ?_ ?_).trans rfl
    · simp [freeAt, eV, h10]
    · simp only [evq_c, evq_v, evq_g, evq_bin, evq_neg, evq_cmp, evq_ite, evq_and, evq_not, evq_idx, evq_slN, evq_slL, evq_slU, evq_slB, evq_l0, evq_l1, evq_l3, evq_tupc, evq_f1, evq_f2, evq_f3, evq_m0, evq_m1, eV, List.getElem?_cons_zero, List.getElem?_cons_succ, natD, readable, Option.bind_some, binop, binSc, binStr, binList, asSc, scInt, scBytes, binI, binS, binB, binLL, mulS, mulL, oneS, oneN, isAdd, isMul, Bool.true_and]
      simp
  have t : ∀ (m : Nat), 1 ≤ m → m ≤ 2 → ev Φ (X.cmp COp.eq (X.idx (X.v 7) (X.bin BOp.sub (X.v 10) (X.c (Sc.int m)))) (X.c (Sc.str [61]))) (eV l k acc st ls (natD (st + k))) = some (.sc (.bool false)) := by
    intro m h1 h2
    have e : ((st + k : Nat) : Int) - m = ((st + k - m : Nat) : Int) := by lia
    have hi : index (.sc (.str l)) (.sc (.int ((st + k - m : Nat) : Int))) = some (.sc (.str [l[st + k - m]'(by lia)])) := index_str (by lia) hl
    have hne : l[st + k - m]'(by lia) ≠ 61 := hq _ (List.getElem_mem _)
    simp only [evq_c, evq_v, evq_g, evq_bin, evq_neg, evq_cmp, evq_ite, evq_and, evq_not, evq_idx, evq_slN, evq_slL, evq_slU, evq_slB, evq_l0, evq_l1, evq_l3, evq_tupc, evq_f1, evq_f2, evq_f3, evq_m0, evq_m1, eV, List.getElem?_cons_zero, List.getElem?_cons_succ, natD, strD, readable, Option.bind_some, binop, binSc, binStr, binList, asSc, scInt, scBytes, binI, binS, binB, binLL, mulS, mulL, oneS, oneN, isAdd, isMul, Bool.true_and, e, hi, cmpop, cmpSc, scStr, D.list?, cmpI, cmpS, cmpL]
    simp [hne]
  unfold lEncB1
  rw [x_seq a1]
  have hb : exec Φ (S.bmc 6 (X.bin BOp.add (X.slB (X.v 7) (X.v 8) (X.v 10)) (X.c (Sc.str [61])))) (eV l k acc st ls (natD (st + k))) = some (.next, eV l k (acc ++ [cut l st (st + k) ++ [61]]) st ls (natD (st + k))) := by
    refine bmc_run ?_ ha
    have hs : slice (.sc (.str l)) (some (.sc (.int st))) (some (.sc (.int ((st + k : Nat) : Int)))) = some (.sc (.str (cut l st (st + k)))) := slice_str (by lia) hst hl
    have hz : sizeOk ((cut l st (st + k)).length + 1) = true := sizeOk_of (by rw [cut_len (by lia) hst]; lia)
    simp only [evq_c, evq_v, evq_g, evq_bin, evq_neg, evq_cmp, evq_ite, evq_and, evq_not, evq_idx, evq_slN, evq_slL, evq_slU, evq_slB, evq_l0, evq_l1, evq_l3, evq_tupc, evq_f1, evq_f2, evq_f3, evq_m0, evq_m1, eV, List.getElem?_cons_zero, List.getElem?_cons_succ, natD, strD, readable, Option.bind_some, hs, binop, binSc, binStr, binList, asSc, scInt, scBytes, binI, binS, binB, binLL, mulS, mulL, oneS, oneN, isAdd, isMul, Bool.true_and]
    simp only [List.length_cons, List.length_nil, Nat.zero_add, hz, if_true]
  have hc : exec Φ (S.seq (S.bmc 6 (X.bin BOp.add (X.slB (X.v 7) (X.v 8) (X.v 10)) (X.c (Sc.str [61])))) (S.seq (S.asg 8 (X.v 10)) S.skip)) (eV l k acc st ls (natD (st + k))) = some (.next, eV l k (acc ++ [cut l st (st + k) ++ [61]]) (st + k) ls (natD (st + k))) := by
    rw [x_seq hb]
    exact x_seq ((x_asg (d := natD (st + k)) rfl rfl).trans rfl)
  refine x_seq ?_
  refine (x_false (t 2 (by lia) (by lia)) rfl).trans ?_
  refine x_seq ?_
  exact (x_false (t 1 (by lia) (by lia)) rfl).trans hc
theorem linesOf_plain : ∀ (l cur : List Nat), (∀ c ∈ l, c ≠ 10) → (l ≠ [] ∨ cur ≠ []) → linesOf l cur = [cur.reverse ++ l]
  | [], cur, _, h => by
    have : cur ≠ [] := by simpa using h
    unfold linesOf
    rw [if_neg (by cases cur <;> simp_all)]
    simp
  | c :: r, cur, h, _ => by
    have h1 : c ≠ 10 := h c (List.mem_cons_self ..)
    unfold linesOf
    rw [if_neg h1, linesOf_plain r (c :: cur) (fun x hx => h x (List.mem_cons_of_mem _ hx)) (.inr (by simp))]
    simp
theorem tame_ge {c : Nat} (h : tame c = true) : 33 ≤ c ∧ c ≤ 126 := by unfold tame at h; simpa using h
noncomputable def piece (k : Nat) (l : List Nat) (i : Nat) : List Nat := cut l (i * k) (i * k + k) ++ if i * k + k < 12 then [61] else []
noncomputable def pieces (k : Nat) (l : List Nat) : List (List Nat) := (List.range (12 / k)).map (piece k l)
theorem le_test {Φ : Fns} {l : List Nat} {k : Nat} {acc : List (List Nat)} {st : Nat} {ls : Int} {d10 : D} : (ev Φ (X.cmp COp.le (X.v 8) (X.v 9)) (eV l k acc st ls d10)).bind truthy = some (decide ((st : Int) ≤ ls)) := rfl
theorem enc_while (Φ : Fns) {l : List Nat} {k : Nat} (hk : k = 3 ∨ k = 4 ∨ k = 6) (hl : l.length = 12) (hq : ∀ c ∈ l, c ≠ 61) : ∃ st d10, ownish d10 = false ∧ st ≤ 12 ∧
    whileL (fun ρ => (ev Φ (X.cmp COp.le (X.v 8) (X.v 9)) ρ).bind truthy) (exec Φ lEncB1) fuel (eV l k [] 0 (10 - k) .undef) = some (.next, eV l k ((List.range (12 / k - 1)).map fun i => cut l (i * k) (i * k + k) ++ [61]) st (10 - k) d10) ∧ l.drop st = piece k l (12 / k - 1) := by
  have hl' : l.length ≤ 1000 := by lia
  have dr : ∀ s, s ≤ 12 → l.drop s = cut l s 12 := fun s _ => by unfold cut; rw [List.take_of_length_le (by lia)]
  rcases hk with rfl | rfl | rfl
  · have t1 := encB1_turn Φ (acc := []) (st := 0) (ls := 10 - 3) (d10 := .undef) (k := 3) (by lia) (by lia) hl' hq (by simp) rfl
    have t2 := encB1_turn Φ (acc := [] ++ [cut l 0 (0 + 3) ++ [61]]) (st := 0 + 3) (ls := 10 - 3) (d10 := natD (0 + 3)) (k := 3) (by lia) (by lia) hl' hq (by simp) rfl
    have t3 := encB1_turn Φ (acc := [] ++ [cut l 0 (0 + 3) ++ [61]] ++ [cut l (0 + 3) (0 + 3 + 3) ++ [61]]) (st := 0 + 3 + 3) (ls := 10 - 3) (d10 := natD (0 + 3 + 3)) (k := 3) (by lia) (by lia) hl' hq (by simp) rfl
    exact ⟨9, natD 9, rfl, by lia, (w_turn (n := 199) rfl t1).trans ((w_turn (n := 198) rfl t2).trans ((w_turn (n := 197) rfl t3).trans (w_end (n := 196) rfl))), by rw [dr 9 (by lia)]; simp [piece]⟩
  · have t1 := encB1_turn Φ (acc := []) (st := 0) (ls := 10 - 4) (d10 := .undef) (k := 4) (by lia) (by lia) hl' hq (by simp) rfl
    have t2 := encB1_turn Φ (acc := [] ++ [cut l 0 (0 + 4) ++ [61]]) (st := 0 + 4) (ls := 10 - 4) (d10 := natD (0 + 4)) (k := 4) (by lia) (by lia) hl' hq (by simp) rfl
    exact ⟨8, natD 8, rfl, by lia, (w_turn (n := 199) rfl t1).trans ((w_turn (n := 198) rfl t2).trans (w_end (n := 197) rfl)), by rw [dr 8 (by lia)]; simp [piece]⟩
  · have t1 := encB1_turn Φ (acc := []) (st := 0) (ls := 10 - 6) (d10 := .undef) (k := 6) (by lia) (by lia) hl' hq (by simp) rfl
    exact ⟨6, natD 6, rfl, by lia, (w_turn (n := 199) rfl t1).trans (w_end (n := 198) rfl), by rw [dr 6 (by lia)]; simp [piece]⟩
theorem pieces_eq {k : Nat} (hk : k = 3 ∨ k = 4 ∨ k = 6) (l : List Nat) : ((List.range (12 / k - 1)).map fun i => cut l (i * k) (i * k + k) ++ [61]) ++ [piece k l (12 / k - 1)] = pieces k l := by
  rcases hk with rfl | rfl | rfl <;> simp [pieces, piece, List.range_succ]
theorem last_plain {Φ : Fns} {l : List Nat} {ρ : List D} {v : Nat} (hl : 0 < l.length) (hz : l.length ≤ 1000) (ht : ∀ c ∈ l, tame c = true) (hv : (ρ[v]?).bind readable = some (strD l)) (s : List Nat) (hs : ∀ c ∈ s, c ≤ 32) :
    ev Φ (X.cmp COp.isin (X.idx (X.v v) (X.neg (X.c (Sc.int 1)))) (X.c (Sc.str s))) ρ = some (.sc (.bool false)) := by
  have hi : index (.sc (.str l)) (.sc (.int (-1))) = _ := index_last hl
  have hc := tame_ge (ht _ (List.getElem_mem (by lia : l.length - 1 < l.length)))
  have hn : s.contains (l[l.length - 1]'(by lia)) = false := by
    rw [Bool.eq_false_iff]
    intro h
    have := hs _ (List.contains_iff_mem.mp h)
    lia
  simp only [evq_c, evq_v, evq_g, evq_bin, evq_neg, evq_cmp, evq_ite, evq_and, evq_not, evq_idx, evq_slN, evq_slL, evq_slU, evq_slB, evq_l0, evq_l1, evq_l3, evq_tupc, evq_f1, evq_f2, evq_f3, evq_m0, evq_m1, D.int?, asSc, scInt, Option.map_some, hv, Option.bind_some, strD, hi, cmpop, cmpSc, scStr, D.list?, cmpI, cmpS, cmpL, oneN, hn]
theorem enc_run (Φ : Fns) {l : List Nat} {k : Nat} (hk : k = 3 ∨ k = 4 ∨ k = 6) (hl : l.length = 12) (ht : ∀ c ∈ l, tame c = true) (hq : ∀ c ∈ l, c ≠ 61) : runFn Φ lEnc 10 [strD l, natD (k + 1), strD [10]] = some (strD (joinL [10] (pieces k l))) := by
  obtain ⟨st, d10, h10, hst, hw, hd⟩ := enc_while Φ hk hl hq
  have hz : sizeOk l.length = true := sizeOk_of (by lia)
  have hne : l ≠ [] := by rintro rfl; simp at hl
  have hemp : l.isEmpty = false := by cases l <;> simp_all
  have hkk : 3 ≤ k ∧ k ≤ 6 := by lia
  have hdk : 12 / k ≤ 4 := by rcases hk with rfl | rfl | rfl <;> decide
  have hline : linesOf l [] = [l] := by
    rw [linesOf_plain l [] (fun c hc => by have := tame_ge (ht c hc); lia) (.inl hne)]; simp
  have hall : (l.all fun c => tame c || c == 10) = true := List.all_eq_true.mpr fun c hc => by rw [ht c hc]; rfl
  have hall2 : (l.all fun c => tame c && c != 61) = true := List.all_eq_true.mpr fun c hc => by rw [ht c hc]; simpa using hq c hc
  let R0 : List D := [strD l, natD (k + 1), strD [10], .undef, .undef, .undef, .undef, .undef, .undef, .undef, .undef, .undef, .undef]
  let R3 : List D := [strD l, natD (k + 1), strD [10], strD [61, 10], natD k, .own [], .bm 5, .undef, .undef, .undef, .undef, .undef, .undef]
  have s1 : exec Φ (S.ifs (X.cmp COp.lt (X.v 1) (X.c (Sc.int 4))) (S.seq S.fail S.skip) S.skip) R0 = some (.next, R0) := by
    refine (x_false (x := .sc (.bool false)) ?_ rfl).trans rfl
    have : decide (((k + 1 : Nat) : Int) < 4) = false := by simp; lia
    show some (D.sc (.bool (decide (((k + 1 : Nat) : Int) < 4)))) = _
    rw [this]
  have s2 : exec Φ (S.ifs (X.not (X.v 0)) (S.seq (S.ret (X.v 0)) S.skip) S.skip) R0 = some (.next, R0) := by
    refine (x_false (x := .sc (.bool false)) ?_ rfl).trans rfl
    show (Option.bind (some (strD l)) truthy).map _ = _
    simp only [strD, Option.bind_some, truthy, asSc, truthyS, hz, if_true, hemp, Option.map_some]; rfl
  have s3 : exec Φ (S.asg 0 (X.m0 M0.translate (X.v 0))) R0 = some (.next, R0) := by
    refine (x_asg (d := strD l) rfl ?_).trans rfl
    show meth0 .translate (strD l) = _
    simp only [meth0, D.str?, D.bytes?, asSc, scStr, scBytes, Option.bind_some, strD, hz, hemp, hall2, Bool.not_false, Bool.and_self, if_true]
  have s4 : exec Φ (S.asg 3 (X.bin BOp.add (X.c (Sc.str [61])) (X.v 2))) R0 = some (.next, R0.set 3 (strD [61, 10])) := (x_asg rfl rfl)
  have s5 : exec Φ (S.asg 4 (X.bin BOp.sub (X.v 1) (X.c (Sc.int 1)))) (R0.set 3 (strD [61, 10])) = some (.next, (R0.set 3 (strD [61, 10])).set 4 (natD k)) := by
    refine x_asg rfl ?_
    show some (D.sc (.int (((k + 1 : Nat) : Int) - 1))) = _
    have : ((k + 1 : Nat) : Int) - 1 = (k : Int) := by lia
    rw [this]; rfl
  have s6 : exec Φ (S.newOwn 5) ((R0.set 3 (strD [61, 10])).set 4 (natD k)) = some (.next, ((R0.set 3 (strD [61, 10])).set 4 (natD k)).set 5 (.own [])) := rfl
  have s7 : exec Φ (S.alias 6 5) (((R0.set 3 (strD [61, 10])).set 4 (natD k)).set 5 (.own [])) = some (.next, R3) := rfl
  have hP : pieces k l = ((List.range (12 / k - 1)).map fun i => cut l (i * k) (i * k + k) ++ [61]) ++ [l.drop st] := by rw [hd, pieces_eq hk]
  have b : exec Φ lEncB2 [strD l, natD (k + 1), strD [10], strD [61, 10], natD k, .own [], .bm 5, strD l, .undef, .undef, .undef, .undef, .undef] = some (.next, eV l k (pieces k l) st (10 - k) d10) := by
    unfold lEncB2
    have b1 : exec Φ (S.asg 8 (X.c (Sc.int 0))) [strD l, natD (k + 1), strD [10], strD [61, 10], natD k, .own [], .bm 5, strD l, .undef, .undef, .undef, .undef, .undef] = some (.next, [strD l, natD (k + 1), strD [10], strD [61, 10], natD k, .own [], .bm 5, strD l, natD 0, .undef, .undef, .undef, .undef]) := rfl
    have b2 : exec Φ (S.asg 9 (X.bin BOp.sub (X.bin BOp.sub (X.f1 F1.len (X.v 7)) (X.c (Sc.int 1))) (X.v 1))) [strD l, natD (k + 1), strD [10], strD [61, 10], natD k, .own [], .bm 5, strD l, natD 0, .undef, .undef, .undef, .undef] = some (.next, eV l k [] 0 (10 - k) .undef) := by
      refine (x_asg (d := .sc (.int (10 - k))) rfl ?_).trans rfl
      have hlen : fn1 Φ .len (strD l) = some (natD 12) := by simp only [fn1, lenOf, lenS, D.list?, D.int?, D.fba?, asSc, scInt, Option.bind_some, strD, hz, if_true, hl]; rfl
      show ((Option.bind (fn1 Φ .len (strD l)) _).bind _) = _
      rw [hlen]
      show some (D.sc (.int (((12 : Nat) : Int) - 1 - ((k + 1 : Nat) : Int)))) = _
      have : (((12 : Nat) : Int) - 1 - ((k + 1 : Nat) : Int)) = 10 - k := by lia
      rw [this]
    have b3 : exec Φ (S.while_ (X.cmp COp.le (X.v 8) (X.v 9)) lEncB1) (eV l k [] 0 (10 - k) .undef) = _ := hw
    rw [x_seq b1, x_seq b2, x_seq b3]
    refine x_seq ?_
    have hand : ev Φ (X.and (X.v 7) (X.cmp COp.isin (X.idx (X.v 7) (X.neg (X.c (Sc.int 1)))) (X.c (Sc.str [32, 9])))) (eV l k ((List.range (12 / k - 1)).map fun i => cut l (i * k) (i * k + k) ++ [61]) st (10 - k) d10) = some (.sc (.bool false)) := by
      have h7 := last_plain (Φ := Φ) (l := l) (ρ := eV l k ((List.range (12 / k - 1)).map fun i => cut l (i * k) (i * k + k) ++ [61]) st (10 - k) d10) (v := 7) (by lia) (by lia) ht rfl [32, 9] (by simp)
      show ((Option.bind (some (strD l)) truthy).bind fun c => _) = _
      have ht : truthy (strD l) = some true := by simp only [truthy, asSc, Option.bind_some, truthyS, strD, hz, if_true, hemp]; rfl
      rw [Option.bind_some, ht]
      show (Option.map _ ((ev Φ (X.cmp COp.isin _ _) _).bind truthy)) = _
      rw [h7]; rfl
    refine (x_false hand rfl).trans ?_
    refine x_seq ((bmc_run (x := l.drop st) ?_ (by simp; lia)).trans ?_)
    · show slice (strD l) (some (natD st)) none = _
      exact slice_strL (by lia) (by lia)
    · rw [hP]
  have s8 : exec Φ (S.for_ 7 (X.m0 M0.splitlines (X.v 0)) lEncB2) R3 = some (.next, eV l k (pieces k l) st (10 - k) d10) := by
    refine (x_for (x := .list [.str l]) (l := [strD l]) ?_ rfl (by simp)).trans ((f_cons rfl b).trans rfl)
    show meth0 .splitlines (strD l) = _
    simp only [meth0, D.str?, D.bytes?, asSc, scStr, scBytes, Option.bind_some, strD, hz, hall, Bool.and_self, if_true, hline]; rfl
  have s9 : exec Φ (S.ifs (X.cmp COp.isin (X.idx (X.v 0) (X.neg (X.c (Sc.int 1)))) (X.g GV.crlf)) (S.seq (S.bmc 6 (X.c (Sc.str []))) S.skip) S.skip) (eV l k (pieces k l) st (10 - k) d10) = some (.next, eV l k (pieces k l) st (10 - k) d10) := by
    have h7 := last_plain (Φ := Φ) (l := l) (ρ := eV l k (pieces k l) st (10 - k) d10) (v := 0) (by lia) (by lia) ht rfl [13, 10] (by simp)
    exact (x_false (x := .sc (.bool false)) h7 rfl).trans rfl
  refine run_ret (z := strD (joinL [10] (pieces k l))) (d := strD (joinL [10] (pieces k l))) (ρ1 := eV l k (pieces k l) st (10 - k) d10) ?_ rfl
  show exec Φ lEnc R0 = _
  unfold lEnc
  rw [x_seq s1, x_seq s2, x_seq s3, x_seq s4, x_seq s5, x_seq s6, x_seq s7, x_seq s8, x_seq s9]
  refine x_stop (x_ret ?_ (by simp [isSc, strD])) (fun e => nomatch e)
  show meth1 .join (strD [10]) (.list ((pieces k l).map strS)) = _
  have hstr : isStrs ((pieces k l).map strS) = some (pieces k l) := by
    have : ∀ m : List (List Nat), isStrs (m.map strS) = some m := fun m => by induction m with
      | nil => rfl
      | cons a m ih => simp [isStrs, scStr, Option.bind_some, strS] at ih ⊢; rw [ih]
    exact this _
  simp only [meth1, D.str?, D.list?, asSc, scStr, Option.bind_some, strD, hstr]
  rw [if_pos]
  apply sizeOk_of
  have hsum : ∀ m : List (List Nat), (∀ x ∈ m, x.length ≤ 13) → (m.map List.length).sum ≤ 13 * m.length := fun m => by
    induction m with
    | nil => intro _; simp
    | cons a m ih =>
      intro h
      have h1 := h a (List.mem_cons_self ..)
      have h2 := ih fun x hx => h x (List.mem_cons_of_mem _ hx)
      simp only [List.map_cons, List.sum_cons, List.length_cons]
      lia
  have hp : ∀ x ∈ pieces k l, x.length ≤ 13 := by
    intro x hx
    obtain ⟨i, _, rfl⟩ := List.mem_map.mp hx
    unfold piece cut
    simp only [List.length_append, List.length_drop, List.length_take]
    split <;> simp <;> lia
  have := hsum _ hp
  have hlen : (pieces k l).length ≤ 4 := by simp [pieces]; lia
  simp only [List.length_map, List.length_singleton]
  lia
end Mine

end
section
set_option Elab.async false
set_option linter.all false
set_option maxRecDepth 100000
namespace Mine
/-- the variables of decode at work -/
noncomputable def dV (enc dec line : List Nat) (i n : Nat) (c : D) : List D := [strD enc, strD [10], strD dec, strD line, natD i, natD n, c]
theorem strD_read (l : List Nat) : readable (strD l) = some (strD l) := rfl
theorem add_str' {a b : List Nat} (h : a.length + b.length ≤ 100000) : augop (strD a) (strD b) = some (strD (a ++ b)) := by
  simp only [augop, asSc, Option.bind_some, augSc, scInt, scStr, Option.map_some, strD, sizeOk_of h, if_true]
theorem add_one (i : Nat) : augop (natD i) (.sc (.int 1)) = some (natD (i + 1)) := by
  simp only [augop, asSc, Option.bind_some, augSc, scInt, scStr, Option.map_some, natD]; norm_cast
theorem dec_step (Φ : Fns) {enc dec line : List Nat} {i n : Nat} {c : D} (hi : i < line.length) (hl : line.length ≤ 1000) (hd : dec.length ≤ 1000) (hq : line[i] ≠ 61) (hc : ownish c = false) :
    exec Φ lDecB1 (dV enc dec line i n c) = some (.next, dV enc (dec ++ [line[i]] ++ if i + 1 = n then [10] else []) line (i + 1) n (strD [line[i]])) := by
  have a1 : exec Φ (S.asg 6 (X.idx (X.v 3) (X.v 4))) (dV enc dec line i n c) = some (.next, dV enc dec line i n (strD [line[i]])) := by
    refine (x_asg (d := strD [line[i]]) ?_ ?_).trans rfl
    · simp [freeAt, dV, hc]
    · show index (strD line) (natD i) = _
      exact index_str hi hl
  unfold lDecB1
  rw [x_seq a1]
  have t1 : ev Φ (X.cmp COp.ne (X.v 6) (X.c (Sc.str [61]))) (dV enc dec line i n (strD [line[i]])) = some (.sc (.bool true)) := by
    show some (D.sc (.bool (!decide ([line[i]] = [61])))) = _
    have : decide ([line[i]] = [61]) = false := by simpa using hq
    rw [this]; rfl
  have a2 : exec Φ (S.seq (S.aug 2 (X.v 6)) (S.seq (S.aug 4 (X.c (Sc.int 1))) S.skip)) (dV enc dec line i n (strD [line[i]])) = some (.next, dV enc (dec ++ [line[i]]) line (i + 1) n (strD [line[i]])) := by
    rw [x_seq (x_aug (ρ := dV enc dec line i n (strD [line[i]])) (x := strD dec) (y := strD [line[i]]) rfl rfl (add_str' (by simp; lia)))]
    exact x_seq (x_aug (x := natD i) (y := .sc (.int 1)) rfl rfl (add_one i))
  rw [x_seq ((x_true t1 rfl).trans a2)]
  refine x_seq ?_
  have t2 : ev Φ (X.cmp COp.eq (X.v 4) (X.v 5)) (dV enc (dec ++ [line[i]]) line (i + 1) n (strD [line[i]])) = some (.sc (.bool (decide (i + 1 = n)))) := by
    show some (D.sc (.bool (decide (((i + 1 : Nat) : Int) = (n : Int))))) = _
    have : decide (((i + 1 : Nat) : Int) = (n : Int)) = decide (i + 1 = n) := by
      rw [decide_eq_decide]; lia
    rw [this]
  by_cases h : i + 1 = n
  · have ht : decide (i + 1 = n) = true := by simpa using h
    rw [ht] at t2
    rw [if_pos h]
    refine (x_true t2 rfl).trans (x_seq (x_aug (x := strD (dec ++ [line[i]])) (y := strD [10]) rfl rfl (add_str' (by simp; lia))))
  · have ht : decide (i + 1 = n) = false := by simpa using h
    rw [ht] at t2
    rw [if_neg h, List.append_nil]
    exact (x_false t2 rfl).trans rfl
noncomputable def dTest (Φ : Fns) : List D → Option Bool := fun ρ => (ev Φ (X.cmp COp.lt (X.v 4) (X.v 5)) ρ).bind truthy
theorem dTest_eq {Φ : Fns} {enc dec line : List Nat} {i n : Nat} {c : D} : dTest Φ (dV enc dec line i n c) = some (decide (i < n)) := by
  show some (decide (((i : Nat) : Int) < (n : Int))) = _
  rw [Option.some.injEq, decide_eq_decide]; lia
/-- the signs of a line, short of its end -/
theorem dec_signs (Φ : Fns) {enc line : List Nat} {n F : Nat} (hl : line.length ≤ 100) : ∀ (m i : Nat) (dec : List Nat) (c : D), i + m ≤ line.length → i + m < n → dec.length + m ≤ 1000 → (∀ j (h : j < line.length), i ≤ j → j < i + m → line[j] ≠ 61) → ownish c = false →
    ∃ c', ownish c' = false ∧ whileL (dTest Φ) (exec Φ lDecB1) (F + m) (dV enc dec line i n c) = whileL (dTest Φ) (exec Φ lDecB1) F (dV enc (dec ++ cut line i (i + m)) line (i + m) n c')
  | 0, i, dec, c, _, _, _, _, hc => ⟨c, hc, by
      have : cut line i (i + 0) = [] := by unfold cut; simp
      rw [this]; simp⟩
  | m + 1, i, dec, c, h1, h2, h3, hq, hc => by
    have hi : i < line.length := by lia
    have hb := dec_step Φ (enc := enc) (n := n) (dec := dec) (c := c) hi (by lia) (by lia) (hq i hi (Nat.le_refl _) (by lia)) hc
    rw [if_neg (by lia), List.append_nil] at hb
    obtain ⟨c', hc', ih⟩ := dec_signs Φ (enc := enc) (n := n) (F := F) hl m (i + 1) (dec ++ [line[i]]) (strD [line[i]]) (by lia) (by lia) (by simp; lia) (fun j h hj hj' => hq j h (by lia) (by lia)) rfl
    refine ⟨c', hc', ?_⟩
    have e1 : F + (m + 1) = (F + m) + 1 := by lia
    rw [e1, w_turn (by rw [dTest_eq]; simp; lia) hb, ih]
    have e2 : i + 1 + m = i + (m + 1) := by lia
    have e3 : cut line i (i + (m + 1)) = line[i] :: cut line (i + 1) (i + (m + 1)) := by
      unfold cut
      have : i < (line.take (i + (m + 1))).length := by simp; lia
      rw [List.drop_eq_getElem_cons this]
      simp
    rw [e2, e3]
    simp
theorem dec_head (Φ : Fns) {enc dec line : List Nat} {d4 d5 d6 : D} (hl : line.length ≤ 100) (hn : 0 < line.length) (ht : ∀ c ∈ line, tame c = true) (h4 : ownish d4 = false) (h5 : ownish d5 = false) :
    exec Φ lDecB2 [strD enc, strD [10], strD dec, strD line, d4, d5, d6] = (whileL (dTest Φ) (exec Φ lDecB1) fuel (dV enc dec line 0 line.length d6)).bind fun p => andThen p (exec Φ S.skip) := by
  have hz : sizeOk line.length = true := sizeOk_of (by lia)
  have hall : line.all tame = true := List.all_eq_true.mpr ht
  have hemp : line.isEmpty = false := by cases line <;> simp_all
  unfold lDecB2
  have s1 : exec Φ (S.asg 3 (X.m0 M0.rstrip (X.v 3))) [strD enc, strD [10], strD dec, strD line, d4, d5, d6] = some (.next, [strD enc, strD [10], strD dec, strD line, d4, d5, d6]) := by
    refine (x_asg (d := strD line) rfl ?_).trans rfl
    show meth0 .rstrip (strD line) = _
    simp only [meth0, D.str?, D.bytes?, asSc, scStr, scBytes, Option.bind_some, strD, hz, hall, Bool.and_self, if_true]
  have s2 : exec Φ (S.ifs (X.not (X.v 3)) (S.seq (S.aug 2 (X.v 1)) (S.seq S.cont S.skip)) S.skip) [strD enc, strD [10], strD dec, strD line, d4, d5, d6] = some (.next, [strD enc, strD [10], strD dec, strD line, d4, d5, d6]) := by
    refine (x_false (x := .sc (.bool false)) ?_ rfl).trans rfl
    show (truthy (strD line)).map _ = _
    simp only [truthy, asSc, Option.bind_some, truthyS, strD, hz, if_true, hemp]; rfl
  have s3 : exec Φ (S.asg 4 (X.c (Sc.int 0))) [strD enc, strD [10], strD dec, strD line, d4, d5, d6] = some (.next, [strD enc, strD [10], strD dec, strD line, natD 0, d5, d6]) :=
    (x_asg (d := natD 0) (by simp [freeAt, h4]) rfl).trans rfl
  have s4 : exec Φ (S.asg 5 (X.f1 F1.len (X.v 3))) [strD enc, strD [10], strD dec, strD line, natD 0, d5, d6] = some (.next, dV enc dec line 0 line.length d6) := by
    refine (x_asg (d := natD line.length) (by simp [freeAt, h5]) ?_).trans rfl
    show fn1 Φ .len (strD line) = _
    simp only [fn1, lenOf, lenS, D.list?, D.int?, D.fba?, asSc, scInt, Option.bind_some, strD, hz, if_true]; rfl
  rw [x_seq s1, x_seq s2, x_seq s3, x_seq s4]
  rfl
/-- a line with a soft break -/
theorem dec_soft (Φ : Fns) {enc dec r : List Nat} {d4 d5 d6 : D} (hl : r.length ≤ 50) (hd : dec.length ≤ 500) (ht : ∀ c ∈ r, tame c = true) (hq : ∀ c ∈ r, c ≠ 61) (h4 : ownish d4 = false) (h5 : ownish d5 = false) (h6 : ownish d6 = false) :
    ∃ e4 e5 e6, ownish e4 = false ∧ ownish e5 = false ∧ ownish e6 = false ∧ exec Φ lDecB2 [strD enc, strD [10], strD dec, strD (r ++ [61]), d4, d5, d6] = some (.next, [strD enc, strD [10], strD (dec ++ r), strD (r ++ [61]), e4, e5, e6]) := by
  rw [dec_head Φ (by simp; lia) (by simp) (by
    intro c hc
    rcases List.mem_append.mp hc with h | h
    · exact ht c h
    · rw [List.mem_singleton.mp h]; decide) h4 h5]
  have hlen : (r ++ [61]).length = r.length + 1 := by simp
  obtain ⟨c', hc', hs⟩ := dec_signs Φ (enc := enc) (line := r ++ [61]) (n := r.length + 1) (F := fuel - r.length) (by simp; lia) r.length 0 dec d6 (by simp) (by lia) (by lia) (fun j h hj hj' => by
    rw [List.getElem_append_left (by lia)]
    exact hq _ (List.getElem_mem _)) h6
  have e1 : fuel - r.length + r.length = fuel := by unfold fuel; lia
  rw [e1] at hs
  rw [hlen, hs]
  have e2 : fuel - r.length = (fuel - r.length - 2) + 1 + 1 := by unfold fuel; lia
  have e3 : cut (r ++ [61]) 0 (0 + r.length) = r := by unfold cut; simp
  rw [e2, e3, Nat.zero_add]
  have hg : (r ++ [61])[r.length]'(by simp) = 61 := by simp
  have a1 : exec Φ (S.asg 6 (X.idx (X.v 3) (X.v 4))) (dV enc (dec ++ r) (r ++ [61]) r.length (r.length + 1) c') = some (.next, dV enc (dec ++ r) (r ++ [61]) r.length (r.length + 1) (strD [61])) := by
    refine (x_asg (d := strD [61]) (by simp [freeAt, dV, hc']) ?_).trans rfl
    show index (strD (r ++ [61])) (natD r.length) = _
    have := index_str (l := r ++ [61]) (i := r.length) (by simp) (by simp; lia)
    rw [hg] at this
    exact this
  have hb : exec Φ lDecB1 (dV enc (dec ++ r) (r ++ [61]) r.length (r.length + 1) c') = some (.cont, dV enc (dec ++ r) (r ++ [61]) (r.length + 1) (r.length + 1) (strD [61])) := by
    unfold lDecB1
    rw [x_seq a1]
    refine x_stop ?_ (fun e => nomatch e)
    refine (x_false (x := .sc (.bool false)) rfl rfl).trans ?_
    refine x_stop ?_ (fun e => nomatch e)
    have t : ev Φ (X.cmp COp.eq (X.bin BOp.add (X.v 4) (X.c (Sc.int 1))) (X.v 5)) (dV enc (dec ++ r) (r ++ [61]) r.length (r.length + 1) (strD [61])) = some (.sc (.bool true)) := by
      show some (D.sc (.bool (decide ((r.length : Int) + 1 = ((r.length + 1 : Nat) : Int))))) = _
      have : decide ((r.length : Int) + 1 = ((r.length + 1 : Nat) : Int)) = true := by simp
      rw [this]
    refine (x_true t rfl).trans ?_
    rw [x_seq (x_aug (x := natD r.length) (y := .sc (.int 1)) rfl rfl (add_one r.length))]
    exact x_stop rfl (fun e => nomatch e)
  rw [w_cont (by rw [dTest_eq]; simp) hb, w_end (by rw [dTest_eq]; simp)]
  exact ⟨natD (r.length + 1), natD (r.length + 1), strD [61], rfl, rfl, rfl, rfl⟩
/-- the last line -/
theorem dec_last (Φ : Fns) {enc dec r : List Nat} {d4 d5 d6 : D} (hn : 0 < r.length) (hl : r.length ≤ 50) (hd : dec.length ≤ 500) (ht : ∀ c ∈ r, tame c = true) (hq : ∀ c ∈ r, c ≠ 61) (h4 : ownish d4 = false) (h5 : ownish d5 = false) (h6 : ownish d6 = false) :
    ∃ e3 e4 e5 e6, exec Φ lDecB2 [strD enc, strD [10], strD dec, strD r, d4, d5, d6] = some (.next, [strD enc, strD [10], strD (dec ++ r ++ [10]), e3, e4, e5, e6]) := by
  rw [dec_head Φ (by lia) hn ht h4 h5]
  obtain ⟨c', hc', hs⟩ := dec_signs Φ (enc := enc) (line := r) (n := r.length) (F := fuel - (r.length - 1)) (by lia) (r.length - 1) 0 dec d6 (by lia) (by lia) (by lia) (fun j h hj hj' => hq _ (List.getElem_mem _)) h6
  have e1 : fuel - (r.length - 1) + (r.length - 1) = fuel := by unfold fuel; lia
  rw [e1] at hs
  rw [hs]
  have e2 : fuel - (r.length - 1) = (fuel - (r.length - 1) - 2) + 1 + 1 := by unfold fuel; lia
  rw [e2, Nat.zero_add]
  have hb := dec_step Φ (enc := enc) (n := r.length) (dec := dec ++ cut r 0 (r.length - 1)) (c := c') (i := r.length - 1) (line := r) (by lia) (by lia) (by simp [cut]; lia) (hq _ (List.getElem_mem _)) hc'
  have e5 : r.length - 1 + 1 = r.length := by lia
  rw [if_pos e5, e5] at hb
  rw [w_turn (by rw [dTest_eq]; simp; lia) hb, w_end (by rw [dTest_eq]; simp)]
  have e6 : dec ++ cut r 0 (r.length - 1) ++ [r[r.length - 1]'(by lia)] ++ [10] = dec ++ r ++ [10] := by
    have : cut r 0 (r.length - 1) ++ [r[r.length - 1]'(by lia)] = r := by
      unfold cut
      rw [List.drop_zero]
      have := List.take_append_getElem (l := r) (i := r.length - 1) (by lia)
      rw [this, e5, List.take_length]
    rw [List.append_assoc dec, this]
  rw [e6]
  exact ⟨_, _, _, _, rfl⟩
/-- the lines of rows that soft breaks join -/
noncomputable def linesE : List (List Nat) → List (List Nat)
  | [] => []
  | [a] => [a]
  | a :: b :: r => (a ++ [61]) :: linesE (b :: r)
theorem linesOf_to (a rest cur : List Nat) (h : ∀ c ∈ a, c ≠ 10) : linesOf (a ++ 10 :: rest) cur = (cur.reverse ++ a) :: linesOf rest [] := by
  induction a generalizing cur with
  | nil => simp [linesOf]
  | cons c a ih =>
    have h1 : c ≠ 10 := h c (List.mem_cons_self ..)
    show (if c = 10 then _ else linesOf (a ++ 10 :: rest) (c :: cur)) = _
    rw [if_neg h1, ih (c :: cur) fun x hx => h x (List.mem_cons_of_mem _ hx)]
    simp
theorem linesOf_join : ∀ (R : List (List Nat)), (∀ r ∈ R, r ≠ [] ∧ ∀ c ∈ r, c ≠ 10) → linesOf (joinL [61, 10] R) [] = linesE R
  | [], _ => rfl
  | [a], h => by
    have := h a (List.mem_cons_self ..)
    show linesOf a [] = [a]
    rw [linesOf_plain a [] this.2 (.inl this.1)]; simp
  | a :: b :: r, h => by
    have h1 := h a (List.mem_cons_self ..)
    have ih := linesOf_join (b :: r) fun x hx => h x (List.mem_cons_of_mem _ hx)
    show linesOf (a ++ [61, 10] ++ joinL [61, 10] (b :: r)) [] = (a ++ [61]) :: linesE (b :: r)
    have e : a ++ [61, 10] ++ joinL [61, 10] (b :: r) = (a ++ [61]) ++ 10 :: joinL [61, 10] (b :: r) := by simp
    rw [e, linesOf_to _ _ _ (by
      intro c hc
      rcases List.mem_append.mp hc with h | h
      · exact h1.2 c h
      · rw [List.mem_singleton.mp h]; decide), ih]
    simp
theorem dec_loop (Φ : Fns) {enc : List Nat} : ∀ (R : List (List Nat)) (dec : List Nat) (d3 d4 d5 d6 : D), R ≠ [] → (∀ r ∈ R, 0 < r.length ∧ r.length ≤ 50 ∧ (∀ c ∈ r, tame c = true) ∧ ∀ c ∈ r, c ≠ 61) → dec.length + R.flatten.length ≤ 500 → ownish d3 = false → ownish d4 = false → ownish d5 = false → ownish d6 = false →
    ∃ e3 e4 e5 e6, forL (exec Φ lDecB2) 3 ((linesE R).map strD) [strD enc, strD [10], strD dec, d3, d4, d5, d6] = some (.next, [strD enc, strD [10], strD (dec ++ R.flatten ++ [10]), e3, e4, e5, e6])
  | [], _, _, _, _, _, h, _, _, _, _, _, _ => absurd rfl h
  | [a], dec, d3, d4, d5, d6, _, h, hz, h3, h4, h5, h6 => by
    obtain ⟨q1, q2, q3, q4⟩ := h a (List.mem_cons_self ..)
    obtain ⟨e3, e4, e5, e6, hb⟩ := dec_last Φ (enc := enc) (dec := dec) q1 q2 (by lia) q3 q4 h4 h5 h6
    refine ⟨e3, e4, e5, e6, (f_cons (by simp [freeAt, h3]) hb).trans ?_⟩
    simp [forL]
  | a :: b :: r, dec, d3, d4, d5, d6, _, h, hz, h3, h4, h5, h6 => by
    obtain ⟨q1, q2, q3, q4⟩ := h a (List.mem_cons_self ..)
    have hz' : dec.length + (a.length + (b :: r).flatten.length) ≤ 500 := by simpa [List.flatten_cons] using hz
    obtain ⟨e4, e5, e6, g4, g5, g6, hb⟩ := dec_soft Φ (enc := enc) (dec := dec) q2 (by lia) q3 q4 h4 h5 h6
    obtain ⟨f3, f4, f5, f6, ih⟩ := dec_loop Φ (b :: r) (dec ++ a) (strD (a ++ [61])) e4 e5 e6 (by simp) (fun x hx => h x (List.mem_cons_of_mem _ hx)) (by simp only [List.length_append]; lia) rfl g4 g5 g6
    refine ⟨f3, f4, f5, f6, (f_cons (by simp [freeAt, h3]) hb).trans (ih.trans ?_)⟩
    simp
theorem join_last : ∀ (R : List (List Nat)), (∀ r ∈ R, 0 < r.length ∧ ∀ c ∈ r, tame c = true) → R ≠ [] → ∃ c, 0 < (joinL [61, 10] R).length ∧ (joinL [61, 10] R)[(joinL [61, 10] R).length - 1]? = some c ∧ tame c = true
  | [], _, h => absurd rfl h
  | [a], h, _ => by
    obtain ⟨h1, h2⟩ := h a (List.mem_cons_self ..)
    exact ⟨a[a.length - 1]'(by lia), h1, List.getElem?_eq_getElem (by show a.length - 1 < a.length; lia), h2 _ (List.getElem_mem _)⟩
  | a :: b :: r, h, _ => by
    obtain ⟨c, h1, h2, h3⟩ := join_last (b :: r) (fun x hx => h x (List.mem_cons_of_mem _ hx)) (by simp)
    refine ⟨c, ?_, ?_, h3⟩
    · show 0 < (a ++ [61, 10] ++ joinL [61, 10] (b :: r)).length
      simp only [List.length_append, List.length_cons]
      lia
    · show (a ++ [61, 10] ++ joinL [61, 10] (b :: r))[(a ++ [61, 10] ++ joinL [61, 10] (b :: r)).length - 1]? = _
      rw [List.getElem?_append_right (by simp; lia), ← h2]
      congr 1
      simp only [List.length_append]
      lia
theorem join_len : ∀ (R : List (List Nat)), (joinL [61, 10] R).length ≤ R.flatten.length + 2 * R.length
  | [] => by simp [joinL]
  | [a] => by simp [joinL]
  | a :: b :: r => by
    have := join_len (b :: r)
    show (a ++ [61, 10] ++ joinL [61, 10] (b :: r)).length ≤ _
    simp only [List.length_append, List.length_cons, List.length_nil, List.flatten_cons] at this ⊢
    lia
theorem join_all : ∀ (R : List (List Nat)), (∀ r ∈ R, ∀ c ∈ r, tame c = true) → ∀ c ∈ joinL [61, 10] R, (tame c || c == 10) = true
  | [], _, c, h => by simp [joinL] at h
  | [a], h, c, hc => by rw [h a (List.mem_cons_self ..) c hc]; rfl
  | a :: b :: r, h, c, hc => by
    have hc : c ∈ a ++ [61, 10] ++ joinL [61, 10] (b :: r) := hc
    rcases List.mem_append.mp hc with hc | hc
    · rcases List.mem_append.mp hc with hc | hc
      · rw [h a (List.mem_cons_self ..) c hc]; rfl
      · simp only [List.mem_cons, List.not_mem_nil, or_false] at hc
        rcases hc with rfl | rfl <;> decide
    · exact join_all (b :: r) (fun x hx => h x (List.mem_cons_of_mem _ hx)) c hc
theorem ev_and {Φ : Fns} {a b : X} {ρ : List D} : ev Φ (.and a b) ρ = ((ev Φ a ρ).bind truthy).bind fun c => if c then ((ev Φ b ρ).bind truthy).map (fun d => .sc (.bool d)) else some (.sc (.bool false)) := rfl
theorem dec_run (Φ : Fns) {R : List (List Nat)} (hne : R ≠ []) (hR : ∀ r ∈ R, 0 < r.length ∧ r.length ≤ 50 ∧ (∀ c ∈ r, tame c = true) ∧ ∀ c ∈ r, c ≠ 61) (hz : R.flatten.length ≤ 400) (hz2 : R.length ≤ 100) :
    runFn Φ lDec 5 [strD (joinL [61, 10] R), strD [10]] = some (strD R.flatten) := by
  have hjl := join_len R
  obtain ⟨c, hp, hlast, hc⟩ := join_last R (fun r hr => ⟨(hR r hr).1, (hR r hr).2.2.1⟩) hne
  have hall : ((joinL [61, 10] R).all fun c => tame c || c == 10) = true := List.all_eq_true.mpr (join_all R fun r hr => (hR r hr).2.2.1)
  have hlines := linesOf_join R fun r hr => ⟨by rintro rfl; have := (hR _ hr).1; simp at this, fun c hc => by have := tame_ge ((hR r hr).2.2.1 c hc); lia⟩
  generalize hE : joinL [61, 10] R = enc at *
  have hzl : sizeOk enc.length = true := sizeOk_of (by lia)
  have hemp : enc.isEmpty = false := by cases enc <;> simp_all
  obtain ⟨e3, e4, e5, e6, hloop⟩ := dec_loop Φ (enc := enc) R [] .undef .undef .undef .undef hne hR (by simpa using (show R.flatten.length ≤ 500 by lia)) rfl rfl rfl rfl
  simp only [List.nil_append] at hloop
  have s1 : exec Φ (S.ifs (X.not (X.v 0)) (S.seq (S.ret (X.v 0)) S.skip) S.skip) [strD enc, strD [10], .undef, .undef, .undef, .undef, .undef] = some (.next, [strD enc, strD [10], .undef, .undef, .undef, .undef, .undef]) := by
    refine (x_false (x := .sc (.bool false)) ?_ rfl).trans rfl
    show (truthy (strD enc)).map _ = _
    simp only [truthy, asSc, Option.bind_some, truthyS, strD, hzl, if_true, hemp]; rfl
  have s2 : exec Φ (S.asg 2 (X.c (Sc.str []))) [strD enc, strD [10], .undef, .undef, .undef, .undef, .undef] = some (.next, [strD enc, strD [10], strD [], .undef, .undef, .undef, .undef]) := rfl
  have s3 : exec Φ (S.for_ 3 (X.m0 M0.splitlines (X.v 0)) lDecB2) [strD enc, strD [10], strD [], .undef, .undef, .undef, .undef] = some (.next, [strD enc, strD [10], strD (R.flatten ++ [10]), e3, e4, e5, e6]) := by
    have hlin : (linesE R).length ≤ 100 := by
      have : ∀ R : List (List Nat), (linesE R).length = R.length := fun R => by
        induction R with
        | nil => rfl
        | cons a R ih => cases R with
          | nil => rfl
          | cons b r => simp only [linesE, List.length_cons] at ih ⊢; rw [ih]
      rw [this]; exact hz2
    refine (x_for (x := .list ((linesE R).map strS)) (l := (linesE R).map strD) ?_ ?_ (by simp; lia)).trans hloop
    · show meth0 .splitlines (strD enc) = _
      simp only [meth0, D.str?, D.bytes?, asSc, scStr, scBytes, Option.bind_some, strD, hzl, hall, Bool.and_self, if_true, hlines]; rfl
    · simp only [items, itemsS, List.map_map]; rfl
  let ρ : List D := [strD enc, strD [10], strD (R.flatten ++ [10]), e3, e4, e5, e6]
  have t1 : ev Φ (X.and (X.cmp COp.notin (X.idx (X.v 0) (X.neg (X.c (Sc.int 1)))) (X.c (Sc.str [13, 10]))) (X.m1 M1.endswith (X.v 2) (X.v 1))) ρ = some (.sc (.bool true)) := by
    have hi : index (strD enc) (.sc (.int (-1))) = some (strD [c]) := by
      have := index_last (l := enc) hp
      rw [List.getElem?_eq_getElem (by lia)] at hlast
      rw [Option.some.inj hlast] at this
      exact this
    have hn : ([13, 10] : List Nat).contains c = false := by
      have := tame_ge hc
      simp; lia
    have q1 : ev Φ (X.cmp COp.notin (X.idx (X.v 0) (X.neg (X.c (Sc.int 1)))) (X.c (Sc.str [13, 10]))) ρ = some (.sc (.bool true)) := by
      show (Option.bind (index (strD enc) (.sc (.int (-1)))) _) = _
      rw [hi]
      show some (D.sc (.bool (!([13, 10] : List Nat).contains c))) = _
      rw [hn]; rfl
    have q2 : ev Φ (X.m1 M1.endswith (X.v 2) (X.v 1)) ρ = some (.sc (.bool true)) := by
      show some (D.sc (.bool (([10] : List Nat).isSuffixOf (R.flatten ++ [10])))) = _
      have : ([10] : List Nat).isSuffixOf (R.flatten ++ [10]) = true := by
        rw [List.isSuffixOf_iff_suffix]; exact ⟨R.flatten, rfl⟩
      rw [this]
    rw [ev_and, q1, q2]; rfl
  have s4 : exec Φ (S.ifs (X.and (X.cmp COp.notin (X.idx (X.v 0) (X.neg (X.c (Sc.int 1)))) (X.c (Sc.str [13, 10]))) (X.m1 M1.endswith (X.v 2) (X.v 1))) (S.seq (S.asg 2 (X.slU (X.v 2) (X.neg (X.f1 F1.len (X.v 1))))) S.skip) S.skip) ρ = some (.next, [strD enc, strD [10], strD R.flatten, e3, e4, e5, e6]) := by
    refine (x_true t1 rfl).trans (x_seq ((x_asg (d := strD R.flatten) rfl ?_).trans rfl))
    show slice (strD (R.flatten ++ [10])) none (some (.sc (.int (-1)))) = _
    have hs : sizeOk (R.flatten ++ [10]).length = true := sizeOk_of (by rw [List.length_append, List.length_singleton]; lia)
    have hm : smallI (-1) = true := by decide
    simp only [slice, sliceS, strD, sliceGo, lim, D.int?, asSc, scInt, Option.bind_some, loI, hiI, hs, Bool.true_eq_false, if_false, hm, if_true]
    have hb : bnd (-1) (R.flatten ++ [10]).length = R.flatten.length := by
      unfold bnd
      rw [if_neg (by decide)]
      simp only [List.length_append, List.length_singleton]
      lia
    rw [hb]
    unfold cut
    simp
  refine run_ret (z := strD R.flatten) (d := strD R.flatten) (ρ1 := [strD enc, strD [10], strD R.flatten, e3, e4, e5, e6]) ?_ rfl
  show exec Φ lDec [strD enc, strD [10], .undef, .undef, .undef, .undef, .undef] = _
  unfold lDec
  rw [x_seq s1, x_seq s2, x_seq s3]
  rw [show exec Φ (S.seq (S.ifs (X.and (X.cmp COp.notin (X.idx (X.v 0) (X.neg (X.c (Sc.int 1)))) (X.c (Sc.str [13, 10]))) (X.m1 M1.endswith (X.v 2) (X.v 1))) (S.seq (S.asg 2 (X.slU (X.v 2) (X.neg (X.f1 F1.len (X.v 1))))) S.skip) S.skip) (S.seq (S.ret (X.v 2)) S.skip)) ρ = _ from x_seq s4]
  exact x_stop (x_ret (d := strD R.flatten) rfl (by simp [isSc, strD])) (fun e => nomatch e)
end Mine

end
section
set_option Elab.async false
set_option linter.all false
set_option maxRecDepth 100000
namespace Mine
/-! what a move does to the parts -/
theorem dots_append (P Q : List Nat) : dots (P ++ Q) = dots P + dots Q := by simp [dots]
theorem dots_rev (P : List Nat) : dots P.reverse = dots P := by simp [dots]
theorem partsR_append : ∀ P Q : List Nat, partsR (P ++ Q) = (partsR P).map (· + dots Q) ++ partsR Q
  | [], Q => rfl
  | c :: P, Q => by
    have ih := partsR_append P Q
    show (if c = 46 then partsR (P ++ Q) else dots (P ++ Q) :: partsR (P ++ Q)) = (if c = 46 then partsR P else dots P :: partsR P).map (· + dots Q) ++ partsR Q
    split
    · exact ih
    · rw [ih, dots_append]; rfl
theorem partsR_bound : ∀ P : List Nat, ∀ x ∈ partsR P, x ≤ dots P
  | [], x, h => by simp [partsR] at h
  | c :: P, x, h => by
    have ih := partsR_bound P
    unfold partsR at h
    have hd : dots P ≤ dots (c :: P) := by simp [dots, List.count_cons]
    split at h
    · exact Nat.le_trans (ih x h) hd
    · rcases List.mem_cons.mp h with rfl | h
      · exact hd
      · exact Nat.le_trans (ih x h) hd
theorem partsR_desc : ∀ P : List Nat, (partsR P).Pairwise (fun a b => b ≤ a)
  | [] => .nil
  | c :: P => by
    unfold partsR
    split
    · exact partsR_desc P
    · exact List.pairwise_cons.mpr ⟨partsR_bound P, partsR_desc P⟩
theorem partsR_count : ∀ P : List Nat, (partsR P).length + dots P = P.length
  | [] => rfl
  | c :: P => by
    have ih := partsR_count P
    unfold partsR
    by_cases h : c = 46
    · subst h; simp [dots] at ih ⊢; lia
    · rw [if_neg h]
      simp [dots, List.count_cons, h] at ih ⊢; lia
theorem partsR_letters : ∀ P : List Nat, (partsR P).length = (P.filter (· != 46)).length
  | [] => rfl
  | c :: P => by
    have ih := partsR_letters P
    unfold partsR
    by_cases h : c = 46
    · subst h; simp [ih]
    · rw [if_neg h]; simp [h, ih]
/-- the places in which two lists part -/
noncomputable def dcount (l m : List Nat) : Nat := ((l.zip m).filter fun p => decide (p.1 ≠ p.2)).length
theorem dcount_append {a b c d : List Nat} (h : a.length = b.length) : dcount (a ++ c) (b ++ d) = dcount a b + dcount c d := by
  unfold dcount
  rw [List.zip_append h, List.filter_append, List.length_append]
theorem dcount_self (a : List Nat) : dcount a a = 0 := by
  unfold dcount
  induction a with
  | nil => rfl
  | cons x a ih => rw [List.zip_cons_cons, List.filter_cons_of_neg (by simp)]; exact ih
theorem dcount_all : ∀ (X : List Nat) (c d : Nat), (∀ x ∈ X, x ≤ d) → X.Pairwise (fun a b => b ≤ a) → dcount (X.map (· + c) ++ [c]) ((c + 1 + d) :: X.map (· + (1 + c))) = X.length + 1
  | [], c, d, _, _ => by
    have : c ≠ c + 1 + d := by lia
    simp [dcount, this]
  | a :: X, c, d, h, hp => by
    have ha := h a (List.mem_cons_self ..)
    obtain ⟨h1, h2⟩ := List.pairwise_cons.mp hp
    have ih := dcount_all X c a h1 h2
    have e : a + (1 + c) = c + 1 + a := by lia
    have hne : a + c ≠ c + 1 + d := by lia
    unfold dcount at ih ⊢
    simp only [List.map_cons, List.cons_append, List.zip_cons_cons, List.filter_cons]
    rw [e] at *
    simp only [hne, ne_eq, not_false_eq_true, decide_true, if_true, List.length_cons]
    simp only [ne_eq] at ih
    rw [ih]
theorem range_dcount : ∀ (l m : List Nat), l.length = m.length → ((List.range l.length).filter fun i => decide (l.getD i 0 ≠ m.getD i 0)).length = dcount l m
  | [], [], _ => rfl
  | a :: l, b :: m, h => by
    have ih := range_dcount l m (by simpa using h)
    have e : List.range (a :: l).length = 0 :: (List.range l.length).map (· + 1) := by rw [List.length_cons, List.range_succ_eq_map]
    rw [e, List.filter_cons, List.filter_map]
    unfold dcount at ih ⊢
    simp only [List.zip_cons_cons, List.filter_cons]
    have e2 : ((fun i => decide ((a :: l).getD i 0 ≠ (b :: m).getD i 0)) ∘ fun x => x + 1) = fun i => decide (l.getD i 0 ≠ m.getD i 0) := by
      funext i; simp
    rw [e2]
    by_cases hab : a = b
    · simp [hab] at ih ⊢; exact ih
    · simp [hab] at ih ⊢; exact ih
/-- the row before a move and after it, read from the end -/
theorem parts_before (A M B : List Nat) {x : Nat} (hx : x ≠ 46) : partsR (A ++ 46 :: (M ++ x :: B)).reverse =
    (partsR B.reverse).map (· + (dots A + 1 + dots M)) ++ ((dots A + 1 + dots M) :: (partsR M.reverse).map (· + (1 + dots A)) ++ partsR A.reverse) := by
  have e : (A ++ 46 :: (M ++ x :: B)).reverse = B.reverse ++ (x :: (M.reverse ++ (46 :: A.reverse))) := by simp
  have h1 : partsR (46 :: A.reverse) = partsR A.reverse := by simp [partsR]
  have h2 : dots (46 :: A.reverse) = 1 + dots A := by rw [show (46 :: A.reverse) = [46] ++ A.reverse from rfl, dots_append, dots_rev]; rfl
  have h3 : dots (M.reverse ++ 46 :: A.reverse) = dots A + 1 + dots M := by rw [dots_append, h2, dots_rev]; lia
  have h4 : dots (x :: (M.reverse ++ 46 :: A.reverse)) = dots A + 1 + dots M := by
    rw [show (x :: (M.reverse ++ 46 :: A.reverse)) = [x] ++ (M.reverse ++ 46 :: A.reverse) from rfl, dots_append, h3]
    have : dots [x] = 0 := by simp [dots, List.count_cons, hx]
    lia
  have h5 : partsR (x :: (M.reverse ++ 46 :: A.reverse)) = dots (M.reverse ++ 46 :: A.reverse) :: partsR (M.reverse ++ 46 :: A.reverse) := by
    show (if x = 46 then _ else _) = _
    rw [if_neg hx]
  rw [e, partsR_append, h4, h5, h3, partsR_append, h1, h2]
  rfl
theorem parts_after (A M B : List Nat) {x : Nat} (hx : x ≠ 46) : partsR (A ++ x :: (M ++ 46 :: B)).reverse =
    (partsR B.reverse).map (· + (dots A + 1 + dots M)) ++ (((partsR M.reverse).map (· + dots A) ++ [dots A]) ++ partsR A.reverse) := by
  have e : (A ++ x :: (M ++ 46 :: B)).reverse = B.reverse ++ (46 :: (M.reverse ++ (x :: A.reverse))) := by simp
  have h2 : dots (x :: A.reverse) = dots A := by
    rw [show (x :: A.reverse) = [x] ++ A.reverse from rfl, dots_append, dots_rev]
    have : dots [x] = 0 := by simp [dots, List.count_cons, hx]
    lia
  have h1 : partsR (x :: A.reverse) = dots A :: partsR A.reverse := by
    show (if x = 46 then _ else _) = _
    rw [if_neg hx, dots_rev]
  have h3 : dots (46 :: (M.reverse ++ x :: A.reverse)) = dots A + 1 + dots M := by
    rw [show (46 :: (M.reverse ++ x :: A.reverse)) = [46] ++ (M.reverse ++ x :: A.reverse) from rfl, dots_append, dots_append, h2, dots_rev]
    have : dots [46] = 1 := rfl
    lia
  have h4 : partsR (46 :: (M.reverse ++ x :: A.reverse)) = partsR (M.reverse ++ x :: A.reverse) := by simp [partsR]
  rw [e, partsR_append, h3, h4, partsR_append, h1, h2]
  simp
theorem sum_add_map (X : List Nat) (c : Nat) : (X.map (· + c)).sum = X.sum + X.length * c := by
  induction X with
  | nil => simp
  | cons a X ih => simp only [List.map_cons, List.sum_cons, List.length_cons, ih]; rw [Nat.succ_mul]; lia
theorem move_sum (A M B : List Nat) {x : Nat} (hx : x ≠ 46) : (partsR (A ++ 46 :: (M ++ x :: B)).reverse).sum = (partsR (A ++ x :: (M ++ 46 :: B)).reverse).sum + (M.length + 1) := by
  rw [parts_before A M B hx, parts_after A M B hx]
  simp only [List.sum_append, List.sum_cons, List.cons_append, List.sum_nil, sum_add_map]
  have := partsR_count M.reverse
  rw [dots_rev, List.length_reverse] at this
  have e : (partsR M.reverse).length * (1 + dots A) = (partsR M.reverse).length + (partsR M.reverse).length * dots A := by rw [Nat.mul_add, Nat.mul_one]
  lia
theorem move_len (A M B : List Nat) {x : Nat} (hx : x ≠ 46) : (partsR (A ++ x :: (M ++ 46 :: B)).reverse).length = (partsR (A ++ 46 :: (M ++ x :: B)).reverse).length := by
  rw [parts_before A M B hx, parts_after A M B hx]
  simp
  lia
theorem move_diff (A M B : List Nat) {x : Nat} (hx : x ≠ 46) : dcount (partsR (A ++ x :: (M ++ 46 :: B)).reverse) (partsR (A ++ 46 :: (M ++ x :: B)).reverse) = (M.filter (· != 46)).length + 1 := by
  rw [parts_before A M B hx, parts_after A M B hx, dcount_append rfl, dcount_self, dcount_append (by simp), dcount_self]
  have := dcount_all (partsR M.reverse) (dots A) (dots M) (fun y hy => by have := partsR_bound M.reverse y hy; rwa [dots_rev] at this) (partsR_desc _)
  have e : (partsR M.reverse).length = (M.filter (· != 46)).length := by
    rw [partsR_letters, List.filter_reverse, List.length_reverse]
  rw [← e]
  lia
end Mine

end
section
set_option Elab.async false
set_option linter.all false
set_option maxRecDepth 100000
namespace Mine
/-! pairs out of order, in a list read from its end -/
noncomputable def invR : List Nat → Nat
  | [] => 0
  | x :: r => (r.filter fun y => decide (x < y)).length + invR r
theorem inv_insert (x : Nat) (R : List Nat) : ∀ Q : List Nat, invR (Q ++ x :: R) = invR (Q ++ R) + (R.filter fun y => decide (x < y)).length + (Q.filter fun y => decide (y < x)).length
  | [] => by simp [invR]; lia
  | q :: Q => by
    have ih := inv_insert x R Q
    simp only [List.cons_append, invR, List.filter_append, List.length_append, List.filter_cons]
    rw [ih]
    by_cases h : q < x <;> simp [h] <;> lia
theorem inv_cross {S S' : List Nat} (h : S.Perm S') : ∀ P : List Nat, invR (P ++ S) + invR S' = invR (P ++ S') + invR S
  | [] => by simp; lia
  | p :: P => by
    have ih := inv_cross h P
    have e : (S.filter fun y => decide (p < y)).length = (S'.filter fun y => decide (p < y)).length := (h.filter _).length_eq
    simp only [List.cons_append, invR, List.filter_append, List.length_append]
    lia
theorem split_count (x : Nat) : ∀ M : List Nat, x ∉ M → (M.filter fun y => decide (x < y)).length + (M.filter fun y => decide (y < x)).length = M.length
  | [], _ => rfl
  | m :: M, h => by
    have h1 : x ≠ m := fun e => h (e ▸ List.mem_cons_self ..)
    have ih := split_count x M fun e => h (List.mem_cons_of_mem _ e)
    simp only [List.filter_cons, List.length_cons]
    by_cases hx : x < m
    · have : ¬ m < x := by lia
      simp [hx, this]; lia
    · have : m < x := by lia
      simp [hx, this]; lia
noncomputable def lets (r : List Nat) : List Nat := r.filter (· != 46)
/-- how often two letters of a row stand out of order -/
noncomputable def inv (r : List Nat) : Nat := invR (lets r).reverse
theorem inv_move (A M B : List Nat) {x : Nat} (hx : x ≠ 46) (hM : x ∉ M) : (inv (A ++ 46 :: (M ++ x :: B)) + inv (A ++ x :: (M ++ 46 :: B))) % 2 = (M.filter (· != 46)).length % 2 := by
  have l1 : (lets (A ++ 46 :: (M ++ x :: B))).reverse = (lets B).reverse ++ (x :: ((lets M).reverse ++ (lets A).reverse)) := by
    simp [lets, List.filter_append, List.filter_cons, hx]
  have l2 : (lets (A ++ x :: (M ++ 46 :: B))).reverse = (lets B).reverse ++ ((lets M).reverse ++ x :: (lets A).reverse) := by
    simp [lets, List.filter_append, List.filter_cons, hx]
  have hp : (x :: ((lets M).reverse ++ (lets A).reverse)).Perm ((lets M).reverse ++ x :: (lets A).reverse) := List.perm_middle.symm
  have hc := inv_cross hp (lets B).reverse
  have hi := inv_insert x (lets A).reverse (lets M).reverse
  have hs := split_count x (lets M).reverse (fun h => hM ((List.mem_filter.mp (List.mem_reverse.mp h)).1))
  have e : (lets M).reverse.length = (M.filter (· != 46)).length := by simp [lets]
  unfold inv
  rw [l1, l2]
  rw [e] at hs
  have h0 : invR (x :: ((lets M).reverse ++ (lets A).reverse)) = ((lets M).reverse.filter fun y => decide (x < y)).length + ((lets A).reverse.filter fun y => decide (x < y)).length + invR ((lets M).reverse ++ (lets A).reverse) := by
    simp only [invR, List.filter_append, List.length_append]
  lia
theorem lets_perm (A M B : List Nat) {x : Nat} (hx : x ≠ 46) : (lets (A ++ x :: (M ++ 46 :: B))).Perm (lets (A ++ 46 :: (M ++ x :: B))) := by
  have l1 : lets (A ++ 46 :: (M ++ x :: B)) = lets A ++ (lets M ++ x :: lets B) := by simp [lets, List.filter_append, List.filter_cons, hx]
  have l2 : lets (A ++ x :: (M ++ 46 :: B)) = lets A ++ x :: (lets M ++ lets B) := by simp [lets, List.filter_append, List.filter_cons, hx]
  rw [l1, l2]
  exact List.Perm.append_left _ List.perm_middle.symm

/-! columns -/
noncomputable def col (k j : Nat) (r : List Nat) : List Nat := (List.range (12 / k)).map fun i => r.getD (i * k + j) 0
/-- the hooks of a column: the pairs of a point above a letter -/
noncomputable def colE (c : List Nat) : Nat := (partsR c.reverse).sum
noncomputable def sunk (c : List Nat) : List Nat := lets c ++ List.replicate (dots c) 46
noncomputable def E (k : Nat) (r : List Nat) : Nat := ((List.range k).map fun j => colE (col k j r)).sum
theorem colE_swap (C1 C2 : List Nat) {x : Nat} (hx : x ≠ 46) : colE (C1 ++ 46 :: x :: C2) = colE (C1 ++ x :: 46 :: C2) + 1 := by
  have := move_sum C1 [] C2 hx
  simpa [colE] using this
theorem sunk_swap (C1 C2 : List Nat) {x : Nat} (hx : x ≠ 46) : sunk (C1 ++ x :: 46 :: C2) = sunk (C1 ++ 46 :: x :: C2) := by
  have h1 : lets (C1 ++ x :: 46 :: C2) = lets (C1 ++ 46 :: x :: C2) := by simp [lets, List.filter_append, List.filter_cons, hx]
  have h2 : dots (C1 ++ x :: 46 :: C2) = dots (C1 ++ 46 :: x :: C2) := by simp [dots, List.count_append, List.count_cons, hx]
  unfold sunk
  rw [h1, h2]
theorem sum_one {f g : Nat → Nat} {j0 : Nat} (h0 : f j0 = g j0 + 1) : ∀ k, (∀ j, j < k → j ≠ j0 → f j = g j) → ((List.range k).map f).sum = ((List.range k).map g).sum + if j0 < k then 1 else 0
  | 0, _ => by simp
  | k + 1, h => by
    have ih := sum_one h0 k fun j hj => h j (by lia)
    rw [List.range_succ]
    simp only [List.map_append, List.sum_append, List.map_cons, List.map_nil, List.sum_cons, List.sum_nil]
    by_cases hk : k = j0
    · subst hk
      rw [ih, h0]
      simp; lia
    · rw [ih, h k (by lia) hk]
      by_cases h1 : j0 < k
      · have : j0 < k + 1 := by lia
        simp [h1, this]; lia
      · have : ¬ j0 < k + 1 := by lia
        simp [h1, this]
/-- a column in which one letter and the point above it change places -/
theorem col_at {k n i0 : Nat} {f f' : Nat → Nat} (hi : i0 + 1 < n) (h : ∀ i, i ≠ i0 → i ≠ i0 + 1 → f' i = f i) : ∃ C1 C2, (List.range n).map f = C1 ++ f i0 :: f (i0 + 1) :: C2 ∧ (List.range n).map f' = C1 ++ f' i0 :: f' (i0 + 1) :: C2 := by
  refine ⟨(List.range i0).map f, (List.range' (i0 + 2) (n - i0 - 2)).map f, ?_, ?_⟩
  · have e : List.range n = List.range i0 ++ i0 :: (i0 + 1) :: List.range' (i0 + 2) (n - i0 - 2) := by
      rw [List.range_eq_range', List.range_eq_range', show n = i0 + ((n - i0 - 2) + 1 + 1) by lia]
      rw [← List.range'_append_1]
      congr 1
      rw [Nat.zero_add, List.range'_succ, List.range'_succ]
      have : i0 + (n - i0 - 2 + 1 + 1) - i0 - 2 = n - i0 - 2 := by lia
      rw [this]
    rw [e]; simp
  · have e : List.range n = List.range i0 ++ i0 :: (i0 + 1) :: List.range' (i0 + 2) (n - i0 - 2) := by
      rw [List.range_eq_range', List.range_eq_range', show n = i0 + ((n - i0 - 2) + 1 + 1) by lia]
      rw [← List.range'_append_1]
      congr 1
      rw [Nat.zero_add, List.range'_succ, List.range'_succ]
      have : i0 + (n - i0 - 2 + 1 + 1) - i0 - 2 = n - i0 - 2 := by lia
      rw [this]
    rw [e]
    simp only [List.map_append, List.map_cons]
    congr 1
    · exact List.map_congr_left fun i hi => h i (by have := List.mem_range.mp hi; lia) (by have := List.mem_range.mp hi; lia)
    · congr 2
      exact List.map_congr_left fun i hi => h i (by have := (List.mem_range'_1.mp hi).1; lia) (by have := (List.mem_range'_1.mp hi).1; lia)
theorem move_get {A M B : List Nat} {x q : Nat} (h1 : q ≠ A.length) (h2 : q ≠ A.length + (M.length + 1)) : (A ++ x :: (M ++ 46 :: B)).getD q 0 = (A ++ 46 :: (M ++ x :: B)).getD q 0 := by
  simp only [List.getD_eq_getElem?_getD]
  congr 1
  by_cases ha : q < A.length
  · rw [List.getElem?_append_left ha, List.getElem?_append_left ha]
  · rw [List.getElem?_append_right (by lia), List.getElem?_append_right (by lia)]
    obtain ⟨m, hm⟩ : ∃ m, q - A.length = m + 1 := ⟨q - A.length - 1, by lia⟩
    rw [hm, List.getElem?_cons_succ, List.getElem?_cons_succ]
    by_cases hb : m < M.length
    · rw [List.getElem?_append_left hb, List.getElem?_append_left hb]
    · rw [List.getElem?_append_right (by lia), List.getElem?_append_right (by lia)]
      obtain ⟨n, hn⟩ : ∃ n, m - M.length = n + 1 := ⟨m - M.length - 1, by lia⟩
      rw [hn, List.getElem?_cons_succ, List.getElem?_cons_succ]
theorem get_A {A M B : List Nat} {y z : Nat} : (A ++ y :: (M ++ z :: B)).getD A.length 0 = y := by simp [List.getD_eq_getElem?_getD]
theorem get_M {A M B : List Nat} {y z : Nat} : (A ++ y :: (M ++ z :: B)).getD (A.length + (M.length + 1)) 0 = z := by
  simp only [List.getD_eq_getElem?_getD]
  rw [List.getElem?_append_right (by lia)]
  have : A.length + (M.length + 1) - A.length = M.length + 1 := by lia
  rw [this, List.getElem?_cons_succ, List.getElem?_append_right (Nat.le_refl _)]
  simp
theorem move_col {k j : Nat} {A M B : List Nat} {x : Nat} (hk : 0 < k) (hd : 12 % k = 0) (hx : x ≠ 46) (hM : M.length + 1 = k) (hl : A.length + k < 12) (hj : j < k) :
    (j ≠ A.length % k → col k j (A ++ x :: (M ++ 46 :: B)) = col k j (A ++ 46 :: (M ++ x :: B))) ∧
    (j = A.length % k → ∃ C1 C2, col k j (A ++ 46 :: (M ++ x :: B)) = C1 ++ 46 :: x :: C2 ∧ col k j (A ++ x :: (M ++ 46 :: B)) = C1 ++ x :: 46 :: C2) := by
  have e12 : 12 / k * k = 12 := Nat.div_mul_cancel (Nat.dvd_of_mod_eq_zero hd)
  constructor
  · intro hne
    refine List.map_congr_left fun i _ => move_get ?_ ?_
    · intro h
      apply hne
      rw [← h, Nat.mul_comm, Nat.mul_add_mod, Nat.mod_eq_of_lt hj]
    · intro h
      apply hne
      have : A.length = i * k + j - k := by lia
      have h2 : (i * k + j) % k = j := by rw [Nat.mul_comm, Nat.mul_add_mod, Nat.mod_eq_of_lt hj]
      rw [h, hM, Nat.add_mod_right] at h2
      exact h2.symm
  · intro he
    have hi : A.length = A.length / k * k + j := by rw [he, Nat.mul_comm]; exact (Nat.div_add_mod _ _).symm
    have hi1 : A.length / k + 1 < 12 / k := by
      have h1 : (A.length / k + 1) * k < 12 / k * k := by rw [e12, Nat.add_mul, Nat.one_mul]; lia
      exact Nat.lt_of_mul_lt_mul_right h1
    obtain ⟨C1, C2, h1, h2⟩ := col_at (k := k) (f := fun i => (A ++ 46 :: (M ++ x :: B)).getD (i * k + j) 0) (f' := fun i => (A ++ x :: (M ++ 46 :: B)).getD (i * k + j) 0) hi1 (by
      intro i hi2 hi3
      refine move_get ?_ ?_
      · intro h
        apply hi2
        rw [hi] at h
        have : i * k = A.length / k * k := by lia
        exact Nat.eq_of_mul_eq_mul_right hk this
      · intro h
        apply hi3
        rw [hi, hM] at h
        have : i * k = (A.length / k + 1) * k := by rw [Nat.add_mul, Nat.one_mul]; lia
        exact Nat.eq_of_mul_eq_mul_right hk this)
    have p1 : A.length / k * k + j = A.length := hi.symm
    have p2 : (A.length / k + 1) * k + j = A.length + (M.length + 1) := by rw [Nat.add_mul, Nat.one_mul]; lia
    refine ⟨C1, C2, ?_, ?_⟩
    · unfold col; rw [h1]; simp only [p1, p2, get_A, get_M]
    · unfold col; rw [h2]; simp only [p1, p2, get_A, get_M]
theorem move_E {k : Nat} {A M B : List Nat} {x : Nat} (hk : 0 < k) (hd : 12 % k = 0) (hx : x ≠ 46) (hM : M.length + 1 = k) (hl : A.length + k < 12) : E k (A ++ 46 :: (M ++ x :: B)) = E k (A ++ x :: (M ++ 46 :: B)) + 1 := by
  have hj0 : A.length % k < k := Nat.mod_lt _ hk
  have := sum_one (f := fun j => colE (col k j (A ++ 46 :: (M ++ x :: B)))) (g := fun j => colE (col k j (A ++ x :: (M ++ 46 :: B)))) (j0 := A.length % k) (by
    obtain ⟨C1, C2, e1, e2⟩ := (move_col (j := A.length % k) (B := B) hk hd hx hM hl hj0).2 rfl
    simp only [e1, e2]
    exact colE_swap C1 C2 hx) k (fun j hj hne => by
    simp only [(move_col (j := j) (B := B) hk hd hx hM hl hj).1 hne])
  rw [if_pos hj0] at this
  exact this
theorem move_sunk {k : Nat} {A M B : List Nat} {x : Nat} (hk : 0 < k) (hd : 12 % k = 0) (hx : x ≠ 46) (hM : M.length + 1 = k) (hl : A.length + k < 12) : ∀ j < k, sunk (col k j (A ++ x :: (M ++ 46 :: B))) = sunk (col k j (A ++ 46 :: (M ++ x :: B))) := by
  intro j hj
  obtain ⟨h1, h2⟩ := move_col (j := j) (B := B) hk hd hx hM hl hj
  by_cases h : j = A.length % k
  · obtain ⟨C1, C2, e1, e2⟩ := h2 h
    rw [e1, e2, sunk_swap _ _ hx]
  · rw [h1 h]
end Mine

end
section
set_option Elab.async false
set_option linter.all false
set_option maxRecDepth 100000
namespace Mine
noncomputable def coreRows (k : Nat) (r : List Nat) : List (List Nat) := (List.range (12 / k)).map fun i => (List.range k).map fun j => (sunk (col k j r)).getD i 0
noncomputable def coreOf (k : Nat) (r : List Nat) : List Nat := (coreRows k r).flatten
theorem core_congr {k : Nat} {r r' : List Nat} (h : ∀ j < k, sunk (col k j r') = sunk (col k j r)) : coreOf k r' = coreOf k r := by
  unfold coreOf coreRows
  congr 1
  refine List.map_congr_left fun i _ => List.map_congr_left fun j hj => ?_
  rw [h j (List.mem_range.mp hj)]
theorem sunk_of_zero : ∀ d : List Nat, (partsR d).sum = 0 → sunk d.reverse = d.reverse
  | [], _ => rfl
  | x :: d, h => by
    unfold partsR at h
    by_cases hx : x = 46
    · subst hx
      rw [if_pos rfl] at h
      have ih := sunk_of_zero d h
      have e1 : lets (d.reverse ++ [46]) = lets d.reverse := by simp [lets, List.filter_append]
      have e2 : dots (d.reverse ++ [46]) = dots d.reverse + 1 := by rw [dots_append]; rfl
      rw [List.reverse_cons]
      unfold sunk at ih ⊢
      rw [e1, e2, List.replicate_succ', ← List.append_assoc, ih]
    · rw [if_neg hx] at h
      simp only [List.sum_cons] at h
      have hd : dots d = 0 := by lia
      have hall : ∀ y ∈ d, y ≠ 46 := fun y hy e => by
        have : 0 < d.count 46 := List.count_pos_iff.mpr (e ▸ hy)
        unfold dots at hd; lia
      have e1 : lets (d.reverse ++ [x]) = d.reverse ++ [x] := by
        unfold lets
        refine List.filter_eq_self.mpr fun y hy => ?_
        rcases List.mem_append.mp hy with h | h
        · simpa using hall y (List.mem_reverse.mp h)
        · rw [List.mem_singleton.mp h]; simpa using hx
      have e2 : dots (d.reverse ++ [x]) = 0 := by
        rw [dots_append, dots_rev, hd]
        simp [dots, List.count_cons, hx]
      rw [List.reverse_cons]
      unfold sunk
      rw [e1, e2]; simp
/-- no point right above a letter: nothing to move -/
theorem zero_of_calm : ∀ d : List Nat, (∀ C1 C2 x, d.reverse = C1 ++ 46 :: x :: C2 → x = 46) → (partsR d).sum = 0 ∧ (∀ y d', d = y :: d' → y ≠ 46 → dots d = 0)
  | [], _ => ⟨rfl, fun _ _ e => nomatch e⟩
  | x :: d, h => by
    have ih := zero_of_calm d fun C1 C2 y e => h C1 (C2 ++ [x]) y (by rw [List.reverse_cons, e]; simp)
    by_cases hx : x = 46
    · subst hx
      refine ⟨by simpa [partsR] using ih.1, fun y d' e hy => ?_⟩
      injection e with e1 e2
      exact absurd e1.symm hy
    · have hd : dots d = 0 := by
        cases d with
        | nil => rfl
        | cons y d' =>
          by_cases hy : y = 46
          · subst hy
            exact absurd (h d'.reverse [] x (by simp)) hx
          · exact ih.2 y d' rfl hy
      refine ⟨?_, fun y d' e _ => ?_⟩
      · unfold partsR
        rw [if_neg hx, List.sum_cons, hd, ih.1]
      · rw [show (x :: d) = [x] ++ d from rfl, dots_append, hd]
        simp [dots, List.count_cons, hx]
noncomputable def freeOf (k : Nat) (r : List Nat) : List Nat := (List.range' k (12 - k)).filter fun p => decide (r.getD p 0 ≠ 46) && decide (r.getD (p - k) 0 = 46)
theorem sum_zero {f : Nat → Nat} : ∀ k, (∀ j < k, f j = 0) → ((List.range k).map f).sum = 0
  | 0, _ => rfl
  | k + 1, h => by
    rw [List.range_succ]
    simp only [List.map_append, List.sum_append, sum_zero k fun j hj => h j (by lia), List.map_cons, List.map_nil, List.sum_cons, List.sum_nil, h k (by lia), Nat.add_zero]
theorem sum_bound {f : Nat → Nat} {b : Nat} : ∀ k, (∀ j < k, f j ≤ b) → ((List.range k).map f).sum ≤ k * b
  | 0, _ => by simp
  | k + 1, h => by
    rw [List.range_succ]
    have ih := sum_bound k fun j hj => h j (by lia)
    have := h k (by lia)
    simp only [List.map_append, List.sum_append, List.map_cons, List.map_nil, List.sum_cons, List.sum_nil]
    rw [Nat.succ_mul]; lia
theorem col_len (k j : Nat) (r : List Nat) : (col k j r).length = 12 / k := by simp [col]
theorem free_nil {k : Nat} {r : List Nat} (hk : k = 3 ∨ k = 4 ∨ k = 6) (h : freeOf k r = []) : ∀ j < k, colE (col k j r) = 0 := by
  intro j hj
  refine (zero_of_calm (col k j r).reverse ?_).1
  intro C1 C2 x e
  rw [List.reverse_reverse] at e
  have hl : C1.length + 2 + C2.length = 12 / k := by
    have := congrArg List.length e
    rw [col_len] at this
    simp only [List.length_append, List.length_cons] at this
    lia
  have g : ∀ i, i < 12 / k → (col k j r)[i]? = some (r.getD (i * k + j) 0) := fun i hi => by simp [col, hi]
  have g1 := g C1.length (by lia)
  have g2 := g (C1.length + 1) (by lia)
  rw [e] at g1 g2
  have g1 : r.getD (C1.length * k + j) 0 = 46 := by
    rw [List.getElem?_append_right (Nat.le_refl _)] at g1
    simpa using g1.symm
  have g2 : r.getD ((C1.length + 1) * k + j) 0 = x := by
    rw [List.getElem?_append_right (by lia)] at g2
    have : C1.length + 1 - C1.length = 1 := by lia
    rw [this] at g2
    simpa using g2.symm
  by_cases hx : x = 46
  · exact hx
  exfalso
  have hmul : (C1.length + 1) * k = C1.length * k + k := by rw [Nat.add_mul, Nat.one_mul]
  have hlt : (C1.length + 1) * k + j < 12 := by
    have h1 : (C1.length + 2) * k ≤ 12 / k * k := Nat.mul_le_mul_right k (by lia)
    have h2 : 12 / k * k ≤ 12 := Nat.div_mul_le_self 12 k
    have h3 : (C1.length + 2) * k = (C1.length + 1) * k + k := by rw [show C1.length + 2 = (C1.length + 1) + 1 from rfl, Nat.add_mul, Nat.one_mul]
    lia
  have hm : (C1.length + 1) * k + j ∈ freeOf k r := by
    unfold freeOf
    refine List.mem_filter.mpr ⟨List.mem_range'_1.mpr ⟨by lia, by lia⟩, ?_⟩
    have e2 : (C1.length + 1) * k + j - k = C1.length * k + j := by lia
    rw [e2, g1, g2]
    simp [hx]
  rw [h] at hm
  cases hm
theorem mul_bound {d l n b : Nat} (h : l + d = n) (hb : (n = 4 ∧ b = 4) ∨ (n = 3 ∧ b = 2) ∨ (n = 2 ∧ b = 1)) : l * d ≤ b := by
  have hd : d ≤ 4 := by lia
  have : d = 0 ∨ d = 1 ∨ d = 2 ∨ d = 3 ∨ d = 4 := by lia
  rcases this with rfl | rfl | rfl | rfl | rfl <;> lia
theorem sum_le_mul (X : List Nat) (b : Nat) (h : ∀ x ∈ X, x ≤ b) : X.sum ≤ X.length * b := by
  induction X with
  | nil => simp
  | cons a X ih =>
    have h1 := h a (List.mem_cons_self ..)
    have h2 := ih fun x hx => h x (List.mem_cons_of_mem _ hx)
    simp only [List.sum_cons, List.length_cons, Nat.succ_mul]
    lia
theorem colE_bound {c : List Nat} {b : Nat} (hb : (c.length = 4 ∧ b = 4) ∨ (c.length = 3 ∧ b = 2) ∨ (c.length = 2 ∧ b = 1)) : colE c ≤ b := by
  have h1 := sum_le_mul (partsR c.reverse) (dots c.reverse) (partsR_bound _)
  have h2 := partsR_count c.reverse
  rw [List.length_reverse] at h2
  exact Nat.le_trans h1 (mul_bound h2 hb)
theorem E_bound {k : Nat} {r : List Nat} (hk : k = 3 ∨ k = 4 ∨ k = 6) : E k r ≤ 12 := by
  rcases hk with rfl | rfl | rfl
  · exact sum_bound 3 fun j _ => colE_bound (b := 4) (.inl ⟨by rw [col_len], rfl⟩)
  · exact Nat.le_trans (sum_bound 4 fun j _ => colE_bound (b := 2) (.inr (.inl ⟨by rw [col_len], rfl⟩))) (by decide)
  · exact Nat.le_trans (sum_bound 6 fun j _ => colE_bound (b := 1) (.inr (.inr ⟨by rw [col_len], rfl⟩))) (by decide)
theorem twelve {r : List Nat} (h : r.length = 12) : ∃ a0 a1 a2 a3 a4 a5 a6 a7 a8 a9 a10 a11, r = [a0, a1, a2, a3, a4, a5, a6, a7, a8, a9, a10, a11] := by
  match r, h with
  | [a0, a1, a2, a3, a4, a5, a6, a7, a8, a9, a10, a11], _ => exact ⟨a0, a1, a2, a3, a4, a5, a6, a7, a8, a9, a10, a11, rfl⟩
theorem rows_back {k : Nat} {r : List Nat} (hk : k = 3 ∨ k = 4 ∨ k = 6) (hr : r.length = 12) : ((List.range (12 / k)).map fun i => (List.range k).map fun j => (col k j r).getD i 0).flatten = r := by
  obtain ⟨a0, a1, a2, a3, a4, a5, a6, a7, a8, a9, a10, a11, rfl⟩ := twelve hr
  rcases hk with rfl | rfl | rfl <;> rfl
theorem core_done {k : Nat} {r : List Nat} (hk : k = 3 ∨ k = 4 ∨ k = 6) (hr : r.length = 12) (h : ∀ j < k, colE (col k j r) = 0) : coreOf k r = r := by
  refine Eq.trans ?_ (rows_back hk hr)
  unfold coreOf coreRows
  congr 1
  refine List.map_congr_left fun i _ => List.map_congr_left fun j hj => ?_
  have := sunk_of_zero (col k j r).reverse (h j (List.mem_range.mp hj))
  rw [List.reverse_reverse] at this
  rw [this]
theorem E_zero {k : Nat} {r : List Nat} (h : ∀ j < k, colE (col k j r) = 0) : E k r = 0 := sum_zero k h
end Mine

end
section
set_option Elab.async false
set_option linter.all false
set_option maxRecDepth 100000
namespace Mine
noncomputable def u8 (r : List Nat) : List UInt8 := r.map Nat.toUInt8
noncomputable def bD (r : List Nat) : D := .sc (.bytes (u8 r))
theorem u8_len (r : List Nat) : (u8 r).length = r.length := by simp [u8]
theorem u8_cut (r : List Nat) (a b : Nat) : cut (u8 r) a b = u8 (cut r a b) := by simp [u8, cut, List.map_take, List.map_drop]
theorem u8_app (a b : List Nat) : u8 a ++ u8 b = u8 (a ++ b) := by simp [u8]
theorem u8_rev (a : List Nat) : (u8 a).reverse = u8 a.reverse := by simp [u8]
theorem u8_nat {c : Nat} (h : c < 256) : (Nat.toUInt8 c).toNat = c := by
  simp [Nat.toUInt8]; lia
theorem u8_back {r : List Nat} (h : ∀ c ∈ r, c < 256) : (u8 r).map UInt8.toNat = r := by
  unfold u8
  rw [List.map_map]
  exact (List.map_congr_left fun c hc => u8_nat (h c hc)).trans (List.map_id r)
theorem index_b {r : List Nat} {i : Nat} (hi : i < r.length) (hl : r.length ≤ 1000) (h : ∀ c ∈ r, c < 256) : index (bD r) (natD i) = some (natD (r.getD i 0)) := by
  have hg : (u8 r)[i]? = some (Nat.toUInt8 r[i]) := by simp [u8, hi]
  have hz : sizeOk (u8 r).length = true := sizeOk_of (by rw [u8_len]; lia)
  simp only [index, D.int?, asSc, scInt, Option.bind_some, idx, idxL, idxS, bD, natD]
  rw [if_pos ⟨Int.natCast_nonneg _, small_nat (by lia), hz⟩, Int.toNat_natCast, hg]
  simp only [Option.map_some, u8_nat (h _ (List.getElem_mem hi))]
  simp [List.getD_eq_getElem?_getD, hi]
theorem dec_b {r : List Nat} (hl : r.length ≤ 1000) (h0 : 0 < r.length) (h : ∀ c ∈ r, c < 256) : meth0 .decode (bD r) = some (strD r) := by
  have hz : sizeOk (u8 r).length = true := sizeOk_of (by rw [u8_len]; lia)
  have he : (u8 r).isEmpty = false := by
    cases r with
    | nil => simp at h0
    | cons a r => rfl
  simp only [meth0, D.str?, D.bytes?, asSc, scStr, scBytes, Option.bind_some, bD, hz, he, Bool.not_false, Bool.and_self, if_true, u8_back h]
  rfl
theorem slice_b {r : List Nat} {a b : Nat} (ha : a ≤ r.length) (hb : b ≤ r.length) (hl : r.length ≤ 1000) : slice (bD r) (some (natD a)) (some (natD b)) = some (bD (cut r a b)) := by
  simp only [slice, sliceS, bD, natD, sliceGo, lim, D.int?, asSc, scInt, Option.bind_some, loI, hiI, u8_len, sizeOk_of (show r.length ≤ 100000 by lia), Bool.true_eq_false, if_false, small_nat (show a ≤ 1000000 by lia), small_nat (show b ≤ 1000000 by lia), Bool.and_self, if_true, bnd_nat ha, bnd_nat hb, u8_cut]
theorem slice_bU {r : List Nat} {b : Nat} (hb : b ≤ r.length) (hl : r.length ≤ 1000) : slice (bD r) none (some (natD b)) = some (bD (r.take b)) := by
  simp only [slice, sliceS, bD, natD, sliceGo, lim, D.int?, asSc, scInt, Option.bind_some, loI, hiI, u8_len, sizeOk_of (show r.length ≤ 100000 by lia), Bool.true_eq_false, if_false, small_nat (show b ≤ 1000000 by lia), if_true, bnd_nat hb, u8_cut]
  simp [cut]
theorem slice_bL {r : List Nat} {a : Nat} (ha : a ≤ r.length) (hl : r.length ≤ 1000) : slice (bD r) (some (natD a)) none = some (bD (r.drop a)) := by
  simp only [slice, sliceS, bD, natD, sliceGo, lim, D.int?, asSc, scInt, Option.bind_some, loI, hiI, u8_len, sizeOk_of (show r.length ≤ 100000 by lia), Bool.true_eq_false, if_false, small_nat (show a ≤ 1000000 by lia), if_true, bnd_nat ha, u8_cut]
  have : cut r a r.length = r.drop a := by unfold cut; rw [List.take_length]
  rw [this]
theorem bnd_m1 {n : Nat} : bnd (-1) n = n - 1 := by
  unfold bnd
  rw [if_neg (by decide)]
  lia
theorem slice_bM {r : List Nat} {a : Nat} (ha : a ≤ r.length) (hl : r.length ≤ 1000) : slice (bD r) (some (natD a)) (some (.sc (.int (-1)))) = some (bD (cut r a (r.length - 1))) := by
  have hm : smallI (-1) = true := by decide
  simp only [slice, sliceS, bD, natD, sliceGo, lim, D.int?, asSc, scInt, Option.bind_some, loI, hiI, u8_len, sizeOk_of (show r.length ≤ 100000 by lia), Bool.true_eq_false, if_false, small_nat (show a ≤ 1000000 by lia), hm, Bool.and_self, if_true, bnd_nat ha, bnd_m1, u8_cut]
theorem slice_bE {r : List Nat} (hl : r.length ≤ 1000) : slice (bD r) (some (.sc (.int (-1)))) none = some (bD (r.drop (r.length - 1))) := by
  have hm : smallI (-1) = true := by decide
  simp only [slice, sliceS, bD, sliceGo, lim, D.int?, asSc, scInt, Option.bind_some, loI, hiI, u8_len, sizeOk_of (show r.length ≤ 100000 by lia), Bool.true_eq_false, if_false, hm, if_true, bnd_m1, u8_cut]
  have : cut r (r.length - 1) r.length = r.drop (r.length - 1) := by unfold cut; rw [List.take_length]
  rw [this]
theorem add_b {a b : List Nat} (h : a.length + b.length ≤ 100000) : binop .add (bD a) (bD b) = some (bD (a ++ b)) := by
  simp only [binop, binSc, binStr, binList, asSc, scInt, scBytes, binI, binS, binB, binLL, mulS, mulL, oneS, oneN, isAdd, isMul, Bool.true_and, bD, u8_len, sizeOk_of h, if_true, u8_app, Option.bind_some]
theorem sum_ints (ps : List Nat) : isInts (sInt ps) = some (ps.map fun n : Nat => (n : Int)) := by
  induction ps with
  | nil => rfl
  | cons a ps ih =>
    show (isInts (sInt ps)).map ((a : Int) :: ·) = _
    rw [ih]; rfl
theorem sum_cast (ps : List Nat) : (ps.map fun n : Nat => (n : Int)).sum = (ps.sum : Nat) := by
  induction ps with
  | nil => rfl
  | cons a ps ih => simp only [List.map_cons, List.sum_cons, ih]; norm_cast
theorem sum_run (Φ : Fns) {ps : List Nat} (h : ps.length ≤ 100000) : fn1 Φ .sum (.list (sInt ps)) = some (natD ps.sum) := by
  simp only [fn1, lenOf, lenS, D.list?, D.int?, D.fba?, asSc, scInt, Option.bind_some, sInt_len, sizeOk_of h, if_true, sum_ints, Option.map_some, sum_cast, natD]
theorem len_run (Φ : Fns) {ps : List Nat} (h : ps.length ≤ 100000) : fn1 Φ .len (.list (sInt ps)) = some (natD ps.length) := by
  simp only [fn1, lenOf, lenS, D.list?, D.int?, D.fba?, asSc, scInt, Option.bind_some, sInt_len, sizeOk_of h, if_true, natD]

/-- a sign of a row -/
noncomputable def Sg (c : Nat) : Prop := c = 46 ∨ (97 ≤ c ∧ c ≤ 108)
theorem Sg.lt {c : Nat} (h : Sg c) : c < 128 := by unfold Sg at h; lia
theorem Sg.tame {c : Nat} (h : Sg c) : tame c = true ∧ c ≠ 61 := by unfold Sg at h; unfold Mine.tame; simp; lia
structure FnR (Φ : Fns) : Prop where
  parts : ∀ r : List Nat, r.length ≤ 1000 → (∀ c ∈ r, c < 128) → Φ.parts (strD r) = some (.list (sInt (partsR r.reverse)))
  swap : ∀ r : List Nat, r.length ≤ 1000 → 1 ≤ r.length → Φ.swap (bD r) (natD r.length) = some (bD r.reverse)

noncomputable def mV (r : List Nat) (k : Nat) (picks : List Int) (steps legs : Nat) (t : Nat) (rest : List D) : List D := bD r :: natD k :: .list (picks.map .int) :: natD steps :: natD legs :: natD t :: rest
theorem free_run (Φ : Fns) {r : List Nat} {k : Nat} {ρ : List D} (hk : 1 ≤ k ∧ k ≤ 12) (hr : r.length = 12) (h : ∀ c ∈ r, c < 256) (h0 : ρ[0]? = some (bD r)) (h1 : ρ[1]? = some (natD k)) :
    ev Φ (X.comp false [1, 0] (X.f2 F2.range (X.v 1) (X.c (Sc.int 12))) (some (X.and (X.cmp COp.ne (X.idx (X.v 2) (X.v 0)) (X.c (Sc.int 46))) (X.cmp COp.eq (X.idx (X.v 2) (X.bin BOp.sub (X.v 0) (X.v 1))) (X.c (Sc.int 46))))) (X.v 0)) ρ =
      some (.list (sInt (freeOf k r))) := by
  have e12 : (12 : Int) = ((k + (12 - k) : Nat) : Int) := by lia
  have hrng : fn2 Φ .range (natD k) (.sc (.int 12)) = some (.rng k ((k + (12 - k) : Nat) : Int) 1) := by
    rw [e12]
    exact mkRng_ok (small_nat (by lia)) (small_nat (by lia)) (by decide) (by decide)
  have hit := items2 (a := k) (n := 12 - k) (by lia) (by lia)
  have e : ev Φ (X.f2 F2.range (X.v 1) (X.c (Sc.int 12))) ρ = fn2 Φ .range (natD k) (.sc (.int 12)) := by
    simp only [evq_c, evq_v, evq_g, evq_bin, evq_neg, evq_cmp, evq_ite, evq_and, evq_not, evq_idx, evq_slN, evq_slL, evq_slU, evq_slB, evq_l0, evq_l1, evq_l3, evq_tupc, evq_f1, evq_f2, evq_f3, evq_m0, evq_m1, h1, Option.bind_some, natD, readable]
  refine (bind_at (e.trans hrng)).trans ((bind_at hit).trans ((if_neg (by rw [sizeOk_of (by simp; lia)]; decide)).trans ?_))
  rw [collect_filter (g := natD) (p := fun p => decide (r.getD p 0 ≠ 46) && decide (r.getD (p - k) 0 = 46)) (h := natS)]
  · rfl
  · intro p hp
    have hp := List.mem_range'_1.mp hp
    have i1 : index (bD r) (natD p) = some (natD (r.getD p 0)) := index_b (by lia) (by lia) h
    have i2 : index (bD r) (natD (p - k)) = some (natD (r.getD (p - k) 0)) := index_b (by lia) (by lia) h
    have es : ((p : Int) - k) = ((p - k : Nat) : Int) := by lia
    let σ : List D := natD p :: [1, 0].map fun i => (ρ[i]?).getD .undef
    have hσ : σ = [natD p, natD k, bD r] := by simp [σ, h0, h1]
    show ((ev Φ (X.and _ _) σ).bind truthy).bind _ = _
    rw [hσ]
    have c1 : ev Φ (X.cmp COp.ne (X.idx (X.v 2) (X.v 0)) (X.c (Sc.int 46))) [natD p, natD k, bD r] = some (.sc (.bool (decide (r.getD p 0 ≠ 46)))) := by
      show (Option.bind (index (bD r) (natD p)) _) = _
      rw [i1]
      show some (D.sc (.bool (!decide (((r.getD p 0 : Nat) : Int) = 46)))) = _
      have : (!decide (((r.getD p 0 : Nat) : Int) = 46)) = decide (r.getD p 0 ≠ 46) := by
        rw [← decide_not, decide_eq_decide]; lia
      rw [this]
    have c2 : ev Φ (X.cmp COp.eq (X.idx (X.v 2) (X.bin BOp.sub (X.v 0) (X.v 1))) (X.c (Sc.int 46))) [natD p, natD k, bD r] = some (.sc (.bool (decide (r.getD (p - k) 0 = 46)))) := by
      show (Option.bind (index (bD r) (.sc (.int ((p : Int) - k)))) _) = _
      rw [es]
      show (Option.bind (index (bD r) (natD (p - k))) _) = _
      rw [i2]
      show some (D.sc (.bool (decide (((r.getD (p - k) 0 : Nat) : Int) = 46)))) = _
      have : decide (((r.getD (p - k) 0 : Nat) : Int) = 46) = decide (r.getD (p - k) 0 = 46) := by
        rw [decide_eq_decide]; lia
      rw [this]
    have hev0 : ∀ σ, ev Φ (X.v 0) (natD p :: σ) = some (natD p) := fun σ => rfl
    rw [ev_and, c1, c2, hev0]
    cases decide (r.getD p 0 ≠ 46) <;> cases decide (r.getD (p - k) 0 = 46) <;> rfl
end Mine

end
section
set_option Elab.async false
set_option linter.all false
set_option maxRecDepth 100000
namespace Mine
section
variable {A M B : List Nat} {x : Nat}
theorem cutA : (A ++ 46 :: (M ++ x :: B)).take A.length = A := by simp
theorem cutMid : cut (A ++ 46 :: (M ++ x :: B)) A.length (A.length + (M.length + 1) + 1) = 46 :: (M ++ [x]) := by
  unfold cut
  have e1 : A ++ 46 :: (M ++ x :: B) = (A ++ 46 :: (M ++ [x])) ++ B := by simp
  have e2 : A.length + (M.length + 1) + 1 = (A ++ 46 :: (M ++ [x])).length := by simp; lia
  rw [e1, e2, List.take_left, List.drop_left]
theorem cutB : (A ++ 46 :: (M ++ x :: B)).drop (A.length + (M.length + 1) + 1) = B := by
  have e1 : A ++ 46 :: (M ++ x :: B) = (A ++ 46 :: (M ++ [x])) ++ B := by simp
  have e2 : A.length + (M.length + 1) + 1 = (A ++ 46 :: (M ++ [x])).length := by simp; lia
  rw [e1, e2, List.drop_left]
theorem cutTurned : cut (x :: (M.reverse ++ [46])) 1 ((x :: (M.reverse ++ [46])).length - 1) = M.reverse := by
  unfold cut
  have e : (x :: (M.reverse ++ [46])).length - 1 = (x :: M.reverse).length := by simp
  rw [e, show x :: (M.reverse ++ [46]) = (x :: M.reverse) ++ [46] from rfl, List.take_left]
  rfl
theorem lastTurned : (x :: (M.reverse ++ [46])).drop ((x :: (M.reverse ++ [46])).length - 1) = [46] := by
  have e : (x :: (M.reverse ++ [46])).length - 1 = (x :: M.reverse).length := by simp
  rw [e, show x :: (M.reverse ++ [46]) = (x :: M.reverse) ++ [46] from rfl, List.drop_left]
end
/-- what the law makes of the row when the letter at p moves -/
theorem row_run {Φ : Fns} (FR : FnR Φ) {A M B : List Nat} {x k : Nat} {ρ : List D} (hM : M.length + 1 = k) (hk : 2 ≤ k) (hr : (A ++ 46 :: (M ++ x :: B)).length = 12)
    (h0 : ρ[0]? = some (bD (A ++ 46 :: (M ++ x :: B)))) (h1 : ρ[1]? = some (natD k)) (h6 : ρ[6]? = some (natD (A.length + k))) (h9 : ρ[9]? = some (bD (x :: (M.reverse ++ [46])))) :
    ev Φ (X.bin BOp.add (X.bin BOp.add (X.bin BOp.add (X.bin BOp.add (X.slU (X.v 0) (X.bin BOp.sub (X.v 6) (X.v 1))) (X.slU (X.v 9) (X.c (Sc.int 1)))) (X.f2 F2.swap (X.slB (X.v 9) (X.c (Sc.int 1)) (X.neg (X.c (Sc.int 1)))) (X.bin BOp.sub (X.v 1) (X.c (Sc.int 1))))) (X.slL (X.v 9) (X.neg (X.c (Sc.int 1))))) (X.slL (X.v 0) (X.bin BOp.add (X.v 6) (X.c (Sc.int 1))))) ρ =
      some (bD (A ++ x :: (M ++ 46 :: B))) := by
  have hlen : A.length + M.length + B.length + 2 = 12 := by
    simp only [List.length_append, List.length_cons] at hr; lia
  have v0 : ev Φ (X.v 0) ρ = some (bD (A ++ 46 :: (M ++ x :: B))) := by simp only [evq_c, evq_v, evq_g, evq_bin, evq_neg, evq_cmp, evq_ite, evq_and, evq_not, evq_idx, evq_slN, evq_slL, evq_slU, evq_slB, evq_l0, evq_l1, evq_l3, evq_tupc, evq_f1, evq_f2, evq_f3, evq_m0, evq_m1, h0, Option.bind_some]; rfl
  have v9 : ev Φ (X.v 9) ρ = some (bD (x :: (M.reverse ++ [46]))) := by simp only [evq_c, evq_v, evq_g, evq_bin, evq_neg, evq_cmp, evq_ite, evq_and, evq_not, evq_idx, evq_slN, evq_slL, evq_slU, evq_slB, evq_l0, evq_l1, evq_l3, evq_tupc, evq_f1, evq_f2, evq_f3, evq_m0, evq_m1, h9, Option.bind_some]; rfl
  have v1 : ev Φ (X.v 1) ρ = some (natD k) := by simp only [evq_c, evq_v, evq_g, evq_bin, evq_neg, evq_cmp, evq_ite, evq_and, evq_not, evq_idx, evq_slN, evq_slL, evq_slU, evq_slB, evq_l0, evq_l1, evq_l3, evq_tupc, evq_f1, evq_f2, evq_f3, evq_m0, evq_m1, h1, Option.bind_some]; rfl
  have v6 : ev Φ (X.v 6) ρ = some (natD (A.length + k)) := by simp only [evq_c, evq_v, evq_g, evq_bin, evq_neg, evq_cmp, evq_ite, evq_and, evq_not, evq_idx, evq_slN, evq_slL, evq_slU, evq_slB, evq_l0, evq_l1, evq_l3, evq_tupc, evq_f1, evq_f2, evq_f3, evq_m0, evq_m1, h6, Option.bind_some]; rfl
  have hT : (x :: (M.reverse ++ [46])).length = k + 1 := by simp; lia
  have s1 : ev Φ (X.slU (X.v 0) (X.bin BOp.sub (X.v 6) (X.v 1))) ρ = some (bD A) := by
    have e : ev Φ (X.bin BOp.sub (X.v 6) (X.v 1)) ρ = some (natD A.length) := by
      show (Option.bind (ev Φ (X.v 6) ρ) fun a => Option.bind (ev Φ (X.v 1) ρ) fun b => binop .sub a b) = _
      rw [v6, v1]
      show some (D.sc (.int (((A.length + k : Nat) : Int) - k))) = _
      have : ((A.length + k : Nat) : Int) - k = (A.length : Int) := by lia
      rw [this]; rfl
    show (Option.bind (ev Φ (X.v 0) ρ) fun a => Option.bind (ev Φ (X.bin BOp.sub (X.v 6) (X.v 1)) ρ) fun b => slice a none (some b)) = _
    rw [v0, e, Option.bind_some, Option.bind_some, slice_bU (by rw [hr]; lia) (by lia), cutA]
  have s2 : ev Φ (X.slU (X.v 9) (X.c (Sc.int 1))) ρ = some (bD [x]) := by
    show (Option.bind (ev Φ (X.v 9) ρ) fun a => slice a none (some (natD 1))) = _
    rw [v9, Option.bind_some, slice_bU (by rw [hT]; lia) (by lia)]
    rfl
  have s3 : ev Φ (X.f2 F2.swap (X.slB (X.v 9) (X.c (Sc.int 1)) (X.neg (X.c (Sc.int 1)))) (X.bin BOp.sub (X.v 1) (X.c (Sc.int 1)))) ρ = some (bD M) := by
    have a1 : ev Φ (X.slB (X.v 9) (X.c (Sc.int 1)) (X.neg (X.c (Sc.int 1)))) ρ = some (bD M.reverse) := by
      show (Option.bind (ev Φ (X.v 9) ρ) fun a => slice a (some (natD 1)) (some (.sc (.int (-1))))) = _
      rw [v9, Option.bind_some, slice_bM (by rw [hT]; lia) (by lia), cutTurned]
    have a2 : ev Φ (X.bin BOp.sub (X.v 1) (X.c (Sc.int 1))) ρ = some (natD M.reverse.length) := by
      show (Option.bind (ev Φ (X.v 1) ρ) fun a => binop .sub a (.sc (.int 1))) = _
      rw [v1]
      show some (D.sc (.int ((k : Int) - 1))) = _
      have : (k : Int) - 1 = ((M.reverse.length : Nat) : Int) := by rw [List.length_reverse]; lia
      rw [this]; rfl
    show (Option.bind (ev Φ (X.slB _ _ _) ρ) fun a => Option.bind (ev Φ (X.bin BOp.sub (X.v 1) (X.c (Sc.int 1))) ρ) fun b => Φ.swap a b) = _
    rw [a1, a2, Option.bind_some, Option.bind_some, FR.swap _ (by rw [List.length_reverse]; lia) (by rw [List.length_reverse]; lia), List.reverse_reverse]
  have s4 : ev Φ (X.slL (X.v 9) (X.neg (X.c (Sc.int 1)))) ρ = some (bD [46]) := by
    show (Option.bind (ev Φ (X.v 9) ρ) fun a => slice a (some (.sc (.int (-1)))) none) = _
    rw [v9, Option.bind_some, slice_bE (by lia), lastTurned]
  have s5 : ev Φ (X.slL (X.v 0) (X.bin BOp.add (X.v 6) (X.c (Sc.int 1)))) ρ = some (bD B) := by
    have e : ev Φ (X.bin BOp.add (X.v 6) (X.c (Sc.int 1))) ρ = some (natD (A.length + (M.length + 1) + 1)) := by
      show (Option.bind (ev Φ (X.v 6) ρ) fun a => binop .add a (.sc (.int 1))) = _
      rw [v6]
      show some (D.sc (.int (((A.length + k : Nat) : Int) + 1))) = _
      have : ((A.length + k : Nat) : Int) + 1 = ((A.length + (M.length + 1) + 1 : Nat) : Int) := by lia
      rw [this]; rfl
    show (Option.bind (ev Φ (X.v 0) ρ) fun a => Option.bind (ev Φ (X.bin BOp.add (X.v 6) (X.c (Sc.int 1))) ρ) fun b => slice a (some b) none) = _
    rw [v0, e, Option.bind_some, Option.bind_some, slice_bL (by rw [hr]; lia) (by lia), cutB]
  have bin : ∀ {a b : X} {p q : List Nat}, ev Φ a ρ = some (bD p) → ev Φ b ρ = some (bD q) → p.length + q.length ≤ 100000 → ev Φ (X.bin BOp.add a b) ρ = some (bD (p ++ q)) := by
    intro a b p q ha hb h
    show (Option.bind (ev Φ a ρ) fun u => Option.bind (ev Φ b ρ) fun v => binop .add u v) = _
    rw [ha, hb]
    exact add_b h
  have := bin (bin (bin (bin s1 s2 (by simp; lia)) s3 (by simp; lia)) s4 (by simp; lia)) s5 (by simp; lia)
  rw [this]
  simp
theorem parts_ev {Φ : Fns} (FR : FnR Φ) {ρ : List D} {r : List Nat} (h0 : ρ[0]? = some (bD r)) (hl : r.length = 12) (hs : ∀ c ∈ r, Sg c) : ev Φ (X.f1 F1.parts (X.m0 M0.decode (X.v 0))) ρ = some (.list (sInt (partsR r.reverse))) := by
  have v0 : ev Φ (X.v 0) ρ = some (bD r) := by simp only [evq_c, evq_v, evq_g, evq_bin, evq_neg, evq_cmp, evq_ite, evq_and, evq_not, evq_idx, evq_slN, evq_slL, evq_slU, evq_slB, evq_l0, evq_l1, evq_l3, evq_tupc, evq_f1, evq_f2, evq_f3, evq_m0, evq_m1, h0, Option.bind_some]; rfl
  show (Option.bind (Option.bind (ev Φ (X.v 0) ρ) fun a => meth0 .decode a) fun a => Φ.parts a) = _
  rw [v0, Option.bind_some, dec_b (by lia) (by lia) (fun c hc => by have := (hs c hc).lt; lia), Option.bind_some, FR.parts _ (by lia) fun c hc => (hs c hc).lt]
theorem pick_mod {a : Int} {n : Nat} (hn : 0 < n) : 0 ≤ a.fmod n ∧ a.fmod n < n := ⟨Int.fmod_nonneg_of_pos _ (by lia), Int.fmod_lt_of_pos _ (by lia)⟩
theorem plain_ints (l : List Nat) : (sInt l).all plainIS = true := by
  refine List.all_eq_true.mpr fun c hc => ?_
  obtain ⟨n, _, rfl⟩ := List.mem_map.mp hc
  rfl
theorem diff_run (Φ : Fns) {ρ : List D} {a b : List Nat} (h8 : ρ[8]? = some (.list (sInt b))) (h10 : ρ[10]? = some (.list (sInt a))) (hab : a.length = b.length) (hl : a.length ≤ 1000) :
    ev Φ (X.f1 F1.len (X.comp false [10, 8] (X.f1 F1.range (X.f1 F1.len (X.v 10))) (some (X.cmp COp.ne (X.idx (X.v 1) (X.v 0)) (X.idx (X.v 2) (X.v 0)))) (X.v 0))) ρ = some (natD (dcount a b)) := by
  have v10 : ev Φ (X.f1 F1.range (X.f1 F1.len (X.v 10))) ρ = some (.rng 0 a.length 1) := by
    show (Option.bind (Option.bind (Option.bind ρ[10]? readable) fun u => fn1 Φ .len u) fun u => fn1 Φ .range u) = _
    rw [h10]
    show (Option.bind (fn1 Φ .len (.list (sInt a))) fun u => fn1 Φ .range u) = _
    rw [len_run Φ (by lia)]
    exact range1 Φ (by lia)
  have hc : ev Φ (X.comp false [10, 8] (X.f1 F1.range (X.f1 F1.len (X.v 10))) (some (X.cmp COp.ne (X.idx (X.v 1) (X.v 0)) (X.idx (X.v 2) (X.v 0)))) (X.v 0)) ρ = some (.list (sInt ((List.range a.length).filter fun i => decide (a.getD i 0 ≠ b.getD i 0)))) := by
    have eqn : ∀ (it elt c : X) (f1 f2 : Nat), ev Φ (X.comp false [f1, f2] it (some c) elt) ρ = (ev Φ it ρ).bind fun x => (items x).bind fun l => if sizeOk l.length = false then none else
      (collect (fun d => ((ev Φ c (d :: [f1, f2].map fun i => (ρ[i]?).getD .undef)).bind truthy).bind fun t =>
        if t then (ev Φ elt (d :: [f1, f2].map fun i => (ρ[i]?).getD .undef)).bind fun y => (asSc y).map fun c => [c] else some []) l).map .list := fun _ _ _ _ _ => rfl
    rw [eqn, v10, Option.bind_some, items1 (by lia), Option.bind_some]
    rw [if_neg (by rw [sizeOk_of (by simp; lia)]; decide)]
    rw [collect_filter (g := natD) (p := fun i => decide (a.getD i 0 ≠ b.getD i 0)) (h := natS)]
    · rw [← List.range_eq_range']; rfl
    · intro i hi
      have hi := List.mem_range'_1.mp hi
      have i1 : index (.list (sInt a)) (natD i) = some (natD a[i]) := index_nat (by lia) hl
      have i2 : index (.list (sInt b)) (natD i) = some (natD b[i]) := index_nat (by lia) (by lia)
      have hσ : (natD i :: [10, 8].map fun i => (ρ[i]?).getD .undef) = [natD i, .list (sInt a), .list (sInt b)] := by simp [h8, h10]
      rw [hσ]
      have c1 : ev Φ (X.cmp COp.ne (X.idx (X.v 1) (X.v 0)) (X.idx (X.v 2) (X.v 0))) [natD i, .list (sInt a), .list (sInt b)] = some (.sc (.bool (decide (a.getD i 0 ≠ b.getD i 0)))) := by
        show (Option.bind (index (.list (sInt a)) (natD i)) fun u => Option.bind (index (.list (sInt b)) (natD i)) fun v => (cmpop .ne u v).map fun b => D.sc (.bool b)) = _
        rw [i1, i2]
        show some (D.sc (.bool (!decide (((a[i] : Nat) : Int) = (b[i] : Nat))))) = _
        have : (!decide (((a[i] : Nat) : Int) = (b[i] : Nat))) = decide (a.getD i 0 ≠ b.getD i 0) := by
          have q1 : i < a.length := by lia
          have q2 : i < b.length := by lia
          have g1 : a.getD i 0 = a[i] := by simp [List.getD_eq_getElem?_getD, q1]
          have g2 : b.getD i 0 = b[i] := by simp [List.getD_eq_getElem?_getD, q2]
          rw [g1, g2, ← decide_not, decide_eq_decide]; lia
        rw [this]
      have hev0 : ∀ σ, ev Φ (X.v 0) (natD i :: σ) = some (natD i) := fun σ => rfl
      rw [c1, hev0]
      cases decide (a.getD i 0 ≠ b.getD i 0) <;> rfl
  show (Option.bind (ev Φ (X.comp _ _ _ _ _) ρ) fun u => fn1 Φ .len u) = _
  rw [hc, Option.bind_some, len_run Φ (by
    have := List.length_filter_le (fun i => decide (a.getD i 0 ≠ b.getD i 0)) (List.range a.length)
    simp at this ⊢; lia), range_dcount a b hab]
end Mine

end
section
set_option Elab.async false
set_option linter.all false
set_option maxRecDepth 100000
namespace Mine
/-- the state of the loop of moves -/
noncomputable def W (r : List Nat) (k : Nat) (picks : List Int) (steps legs : Nat) (t p free before turned after : D) : List D :=
  [bD r, natD k, .list (picks.map .int), natD steps, natD legs, t, p, free, before, turned, after]
theorem free_decomp {k : Nat} {r : List Nat} (hr : r.length = 12) (hk : 1 ≤ k) {p : Nat} (hp : p ∈ freeOf k r) : ∃ A M B x, r = A ++ 46 :: (M ++ x :: B) ∧ M.length + 1 = k ∧ A.length + k = p ∧ x ≠ 46 ∧ A.length + k < 12 := by
  obtain ⟨h1, h2⟩ := List.mem_filter.mp hp
  obtain ⟨h3, h4⟩ := List.mem_range'_1.mp h1
  simp only [Bool.and_eq_true, decide_eq_true_eq] at h2
  obtain ⟨h5, h6⟩ := h2
  have g1 : r.getD p 0 = r[p]'(by lia) := by
    have : p < r.length := by lia
    simp [List.getD_eq_getElem?_getD, this]
  have g2 : r.getD (p - k) 0 = r[p - k]'(by lia) := by
    have : p - k < r.length := by lia
    simp [List.getD_eq_getElem?_getD, this]
  rw [g1] at h5
  rw [g2] at h6
  refine ⟨r.take (p - k), (r.drop (p - k + 1)).take (k - 1), r.drop (p + 1), r[p]'(by lia), ?_, by simp; lia, by simp; lia, h5, by simp; lia⟩
  have e1 : r = r.take (p - k) ++ r[p - k]'(by lia) :: r.drop (p - k + 1) := by
    rw [← List.drop_eq_getElem_cons, List.take_append_drop]
  have e2 : r.drop (p - k + 1) = (r.drop (p - k + 1)).take (k - 1) ++ r[p]'(by lia) :: r.drop (p + 1) := by
    have : r[p]'(by lia) :: r.drop (p + 1) = (r.drop (p - k + 1)).drop (k - 1) := by
      rw [List.drop_drop, show p - k + 1 + (k - 1) = p by lia, ← List.drop_eq_getElem_cons]
    rw [this, List.take_append_drop]
  rw [← e2, ← h6]
  exact e1
theorem moved_turn {Φ : Fns} (FR : FnR Φ) {r : List Nat} {k : Nat} {picks : List Int} {steps legs t : Nat} {p f b tu af : D} (hk : k = 3 ∨ k = 4 ∨ k = 6) (hr : r.length = 12) (hs : ∀ c ∈ r, Sg c) (hpk : picks.length = 13) (ht : t < 13)
    (hp : ownish p = false) (hf : ownish f = false) (hb : ownish b = false) (htu : ownish tu = false) (haf : ownish af = false) (hne : freeOf k r ≠ []) :
    ∃ A M B x p' f' b' tu' af', r = A ++ 46 :: (M ++ x :: B) ∧ M.length + 1 = k ∧ x ≠ 46 ∧ A.length + k < 12 ∧ ownish p' = false ∧ ownish f' = false ∧ ownish b' = false ∧ ownish tu' = false ∧ ownish af' = false ∧
      exec Φ lMovedB1 (W r k picks steps legs (natD t) p f b tu af) = some (.next, W (A ++ x :: (M ++ 46 :: B)) k picks (steps + 1) (legs + (M.filter (· != 46)).length) (natD t) p' f' b' tu' af') := by
  have hk3 : 3 ≤ k ∧ k ≤ 6 := by lia
  have hlt : ∀ c ∈ r, c < 256 := fun c hc => by have := (hs c hc).lt; lia
  -- the free places
  have a1 : exec Φ (S.asg 7 (X.comp false [1, 0] (X.f2 F2.range (X.v 1) (X.c (Sc.int 12))) (some (X.and (X.cmp COp.ne (X.idx (X.v 2) (X.v 0)) (X.c (Sc.int 46))) (X.cmp COp.eq (X.idx (X.v 2) (X.bin BOp.sub (X.v 0) (X.v 1))) (X.c (Sc.int 46))))) (X.v 0)))
      (W r k picks steps legs (natD t) p f b tu af) = some (.next, W r k picks steps legs (natD t) p (.list (sInt (freeOf k r))) b tu af) :=
    (x_asg (by simp [freeAt, W, hf]) (free_run Φ (by lia) hr hlt rfl rfl)).trans rfl
  have a2 : exec Φ (S.ifs (X.cmp COp.eq (X.v 7) X.l0) (S.seq S.brk S.skip) S.skip) (W r k picks steps legs (natD t) p (.list (sInt (freeOf k r))) b tu af) = some (.next, W r k picks steps legs (natD t) p (.list (sInt (freeOf k r))) b tu af) := by
    refine (x_false (x := .sc (.bool false)) ?_ rfl).trans rfl
    show ((cmpop .eq (.list (sInt (freeOf k r))) (.list [])).map fun b => D.sc (.bool b)) = _
    have hd : decide (sInt (freeOf k r) = []) = false := by
      rw [decide_eq_false_iff_not]
      intro e
      exact hne (List.map_eq_nil_iff.mp e)
    simp only [cmpop, cmpSc, asSc, scInt, scStr, D.list?, cmpI, cmpS, cmpL, oneN, plain_ints, List.all_nil, Bool.and_self, if_true, hd, Option.map_some, Option.bind_some]
  -- the pick
  have hF : 0 < (freeOf k r).length := List.length_pos_iff.mpr hne
  have hF2 : (freeOf k r).length ≤ 12 := by
    have := List.length_filter_le (fun p => decide (r.getD p 0 ≠ 46) && decide (r.getD (p - k) 0 = 46)) (List.range' k (12 - k))
    unfold freeOf
    simp at this ⊢; lia
  obtain ⟨m1, m2⟩ := pick_mod (a := picks[t]'(by lia)) hF
  obtain ⟨pi, hpi⟩ := Int.eq_ofNat_of_zero_le m1
  have hpl : pi < (freeOf k r).length := by lia
  have hmem : (freeOf k r)[pi] ∈ freeOf k r := List.getElem_mem _
  obtain ⟨A, M, B, x, rfl, hM, hA, hx, h12⟩ := free_decomp hr (by lia) hmem
  refine ⟨A, M, B, x, natD (A.length + k), .list (sInt (freeOf k (A ++ 46 :: (M ++ x :: B)))), .list (sInt (partsR (A ++ 46 :: (M ++ x :: B)).reverse)), bD (x :: (M.reverse ++ [46])), .list (sInt (partsR (A ++ x :: (M ++ 46 :: B)).reverse)), rfl, hM, hx, h12, rfl, rfl, rfl, rfl, rfl, ?_⟩
  generalize hFr : freeOf k (A ++ 46 :: (M ++ x :: B)) = F at *
  have a3 : exec Φ (S.asg 6 (X.idx (X.v 7) (X.bin BOp.mod (X.idx (X.v 2) (X.v 5)) (X.f1 F1.len (X.v 7))))) (W (A ++ 46 :: (M ++ x :: B)) k picks steps legs (natD t) p (.list (sInt F)) b tu af) =
      some (.next, W (A ++ 46 :: (M ++ x :: B)) k picks steps legs (natD t) (natD (A.length + k)) (.list (sInt F)) b tu af) := by
    refine (x_asg (d := natD (A.length + k)) (by simp [freeAt, W, hp]) ?_).trans rfl
    have e1 : index (.list (picks.map .int)) (natD t) = some (.sc (.int (picks[t]'(by lia)))) := by
      simp only [index, D.int?, asSc, scInt, Option.bind_some, idx, idxL, idxS, natD]
      rw [if_pos ⟨Int.natCast_nonneg _, small_nat (by lia)⟩]
      have : t < picks.length := by lia
      simp [this]
    show (Option.bind (Option.bind (index (.list (picks.map .int)) (natD t)) fun u => Option.bind (fn1 Φ .len (.list (sInt F))) fun v => binop .mod u v) fun u => index (.list (sInt F)) u) = _
    rw [e1, len_run Φ (by lia)]
    have e2 : binop .mod (.sc (.int (picks[t]'(by lia)))) (natD F.length) = some (natD pi) := by
      simp only [binop, binSc, binStr, binList, asSc, scInt, scBytes, binI, binS, binB, binLL, mulS, mulL, oneS, oneN, isAdd, isMul, Bool.true_and, natD, Option.bind_some]
      rw [if_neg (by lia), hpi]
    rw [Option.bind_some, Option.bind_some, e2, Option.bind_some]
    have := index_nat (l := F) (i := pi) hpl (by lia)
    rw [hA]
    exact this
  have a4 : exec Φ (S.asg 8 (X.f1 F1.parts (X.m0 M0.decode (X.v 0)))) (W (A ++ 46 :: (M ++ x :: B)) k picks steps legs (natD t) (natD (A.length + k)) (.list (sInt F)) b tu af) =
      some (.next, W (A ++ 46 :: (M ++ x :: B)) k picks steps legs (natD t) (natD (A.length + k)) (.list (sInt F)) (.list (sInt (partsR (A ++ 46 :: (M ++ x :: B)).reverse))) tu af) :=
    (x_asg (by simp [freeAt, W, hb]) (parts_ev FR rfl hr hs)).trans rfl
  have a5 : exec Φ (S.asg 9 (X.f2 F2.swap (X.slB (X.v 0) (X.bin BOp.sub (X.v 6) (X.v 1)) (X.bin BOp.add (X.v 6) (X.c (Sc.int 1)))) (X.bin BOp.add (X.v 1) (X.c (Sc.int 1)))))
      (W (A ++ 46 :: (M ++ x :: B)) k picks steps legs (natD t) (natD (A.length + k)) (.list (sInt F)) (.list (sInt (partsR (A ++ 46 :: (M ++ x :: B)).reverse))) tu af) =
      some (.next, W (A ++ 46 :: (M ++ x :: B)) k picks steps legs (natD t) (natD (A.length + k)) (.list (sInt F)) (.list (sInt (partsR (A ++ 46 :: (M ++ x :: B)).reverse))) (bD (x :: (M.reverse ++ [46]))) af) := by
    refine (x_asg (d := bD (x :: (M.reverse ++ [46]))) (by simp [freeAt, W, htu]) ?_).trans rfl
    show (Option.bind (slice (bD (A ++ 46 :: (M ++ x :: B))) (some (.sc (.int (((A.length + k : Nat) : Int) - k)))) (some (.sc (.int (((A.length + k : Nat) : Int) + 1))))) fun u => Φ.swap u (.sc (.int ((k : Int) + 1)))) = _
    have e1 : ((A.length + k : Nat) : Int) - k = (A.length : Int) := by lia
    have e2 : ((A.length + k : Nat) : Int) + 1 = ((A.length + (M.length + 1) + 1 : Nat) : Int) := by lia
    have e3 : ((k : Int) + 1) = (((46 :: (M ++ [x])).length : Nat) : Int) := by simp; lia
    rw [e1, e2, e3]
    have := slice_b (r := A ++ 46 :: (M ++ x :: B)) (a := A.length) (b := A.length + (M.length + 1) + 1) (by rw [hr]; lia) (by rw [hr]; lia) (by lia)
    rw [cutMid] at this
    have this' : slice (bD (A ++ 46 :: (M ++ x :: B))) (some (.sc (.int (A.length : Int)))) (some (.sc (.int ((A.length + (M.length + 1) + 1 : Nat) : Int)))) = _ := this
    rw [this', Option.bind_some]
    have sw := FR.swap (46 :: (M ++ [x])) (by simp; lia) (by simp)
    have e4 : (46 :: (M ++ [x])).reverse = x :: (M.reverse ++ [46]) := by simp
    rw [e4] at sw
    exact sw
  have a6 := x_asg (Φ := Φ) (i := 0) (ρ := W (A ++ 46 :: (M ++ x :: B)) k picks steps legs (natD t) (natD (A.length + k)) (.list (sInt F)) (.list (sInt (partsR (A ++ 46 :: (M ++ x :: B)).reverse))) (bD (x :: (M.reverse ++ [46]))) af) rfl
    (row_run FR hM (by lia) hr rfl rfl rfl rfl)
  have hr' : (A ++ x :: (M ++ 46 :: B)).length = 12 := by rw [← hr]; simp
  have hs' : ∀ c ∈ A ++ x :: (M ++ 46 :: B), Sg c := fun c hc => hs c (by
    simp only [List.mem_append, List.mem_cons] at hc ⊢
    rcases hc with h | h | h | h | h <;> simp [h])
  have a7 : exec Φ (S.asg 10 (X.f1 F1.parts (X.m0 M0.decode (X.v 0)))) (W (A ++ x :: (M ++ 46 :: B)) k picks steps legs (natD t) (natD (A.length + k)) (.list (sInt F)) (.list (sInt (partsR (A ++ 46 :: (M ++ x :: B)).reverse))) (bD (x :: (M.reverse ++ [46]))) af) =
      some (.next, W (A ++ x :: (M ++ 46 :: B)) k picks steps legs (natD t) (natD (A.length + k)) (.list (sInt F)) (.list (sInt (partsR (A ++ 46 :: (M ++ x :: B)).reverse))) (bD (x :: (M.reverse ++ [46]))) (.list (sInt (partsR (A ++ x :: (M ++ 46 :: B)).reverse)))) :=
    (x_asg (by simp [freeAt, W, haf]) (parts_ev FR rfl hr' hs')).trans rfl
  have hpl1 : (partsR (A ++ 46 :: (M ++ x :: B)).reverse).length ≤ 12 := by have := partsR_len (A ++ 46 :: (M ++ x :: B)).reverse; rw [List.length_reverse] at this; lia
  have hml := move_len A M B hx
  have a8 : exec Φ (S.ifs (X.cmp COp.ne (X.bin BOp.sub (X.f1 F1.sum (X.v 8)) (X.f1 F1.sum (X.v 10))) (X.v 1)) (S.seq (S.ret X.l0) S.skip) S.skip) (W (A ++ x :: (M ++ 46 :: B)) k picks steps legs (natD t) (natD (A.length + k)) (.list (sInt F)) (.list (sInt (partsR (A ++ 46 :: (M ++ x :: B)).reverse))) (bD (x :: (M.reverse ++ [46]))) (.list (sInt (partsR (A ++ x :: (M ++ 46 :: B)).reverse)))) =
      some (.next, W (A ++ x :: (M ++ 46 :: B)) k picks steps legs (natD t) (natD (A.length + k)) (.list (sInt F)) (.list (sInt (partsR (A ++ 46 :: (M ++ x :: B)).reverse))) (bD (x :: (M.reverse ++ [46]))) (.list (sInt (partsR (A ++ x :: (M ++ 46 :: B)).reverse)))) := by
    refine (x_false (x := .sc (.bool false)) ?_ rfl).trans rfl
    show (Option.bind (Option.bind (fn1 Φ .sum (.list (sInt (partsR (A ++ 46 :: (M ++ x :: B)).reverse)))) fun u => Option.bind (fn1 Φ .sum (.list (sInt (partsR (A ++ x :: (M ++ 46 :: B)).reverse)))) fun v => binop .sub u v) fun u => (cmpop .ne u (natD k)).map fun b => D.sc (.bool b)) = _
    rw [sum_run Φ (by lia), sum_run Φ (by lia)]
    have hsum := move_sum A M B hx
    show some (D.sc (.bool (!decide ((((partsR (A ++ 46 :: (M ++ x :: B)).reverse).sum : Nat) : Int) - ((partsR (A ++ x :: (M ++ 46 :: B)).reverse).sum : Nat) = (k : Int))))) = _
    have : decide ((((partsR (A ++ 46 :: (M ++ x :: B)).reverse).sum : Nat) : Int) - ((partsR (A ++ x :: (M ++ 46 :: B)).reverse).sum : Nat) = (k : Int)) = true := by
      rw [decide_eq_true_eq]; lia
    rw [this]; rfl
  have a9 : exec Φ (S.aug 4 (X.bin BOp.sub (X.f1 F1.len (X.comp false [10, 8] (X.f1 F1.range (X.f1 F1.len (X.v 10))) (some (X.cmp COp.ne (X.idx (X.v 1) (X.v 0)) (X.idx (X.v 2) (X.v 0)))) (X.v 0))) (X.c (Sc.int 1))))
      (W (A ++ x :: (M ++ 46 :: B)) k picks steps legs (natD t) (natD (A.length + k)) (.list (sInt F)) (.list (sInt (partsR (A ++ 46 :: (M ++ x :: B)).reverse))) (bD (x :: (M.reverse ++ [46]))) (.list (sInt (partsR (A ++ x :: (M ++ 46 :: B)).reverse)))) =
      some (.next, W (A ++ x :: (M ++ 46 :: B)) k picks steps (legs + (M.filter (· != 46)).length) (natD t) (natD (A.length + k)) (.list (sInt F)) (.list (sInt (partsR (A ++ 46 :: (M ++ x :: B)).reverse))) (bD (x :: (M.reverse ++ [46]))) (.list (sInt (partsR (A ++ x :: (M ++ 46 :: B)).reverse)))) := by
    refine (x_aug (x := natD legs) (y := natD (M.filter (· != 46)).length) (z := natD (legs + (M.filter (· != 46)).length)) rfl ?_ ?_).trans rfl
    · have := diff_run Φ (ρ := W (A ++ x :: (M ++ 46 :: B)) k picks steps legs (natD t) (natD (A.length + k)) (.list (sInt F)) (.list (sInt (partsR (A ++ 46 :: (M ++ x :: B)).reverse))) (bD (x :: (M.reverse ++ [46]))) (.list (sInt (partsR (A ++ x :: (M ++ 46 :: B)).reverse))))
        (b := partsR (A ++ 46 :: (M ++ x :: B)).reverse) (a := partsR (A ++ x :: (M ++ 46 :: B)).reverse) rfl rfl hml (by lia)
      show (Option.bind (ev Φ (X.f1 F1.len _) _) fun u => binop .sub u (.sc (.int 1))) = _
      rw [this, move_diff A M B hx]
      show some (D.sc (.int ((((M.filter (· != 46)).length + 1 : Nat) : Int) - 1))) = _
      have : (((M.filter (· != 46)).length + 1 : Nat) : Int) - 1 = ((M.filter (· != 46)).length : Nat) := by lia
      rw [this]; rfl
    · simp only [augop, asSc, Option.bind_some, augSc, scInt, scStr, Option.map_some, natD]; norm_cast
  have a10 : exec Φ (S.aug 3 (X.c (Sc.int 1))) (W (A ++ x :: (M ++ 46 :: B)) k picks steps (legs + (M.filter (· != 46)).length) (natD t) (natD (A.length + k)) (.list (sInt F)) (.list (sInt (partsR (A ++ 46 :: (M ++ x :: B)).reverse))) (bD (x :: (M.reverse ++ [46]))) (.list (sInt (partsR (A ++ x :: (M ++ 46 :: B)).reverse)))) =
      some (.next, W (A ++ x :: (M ++ 46 :: B)) k picks (steps + 1) (legs + (M.filter (· != 46)).length) (natD t) (natD (A.length + k)) (.list (sInt F)) (.list (sInt (partsR (A ++ 46 :: (M ++ x :: B)).reverse))) (bD (x :: (M.reverse ++ [46]))) (.list (sInt (partsR (A ++ x :: (M ++ 46 :: B)).reverse)))) :=
    (x_aug (x := natD steps) (y := .sc (.int 1)) rfl rfl (add_one steps)).trans rfl
  unfold lMovedB1
  rw [x_seq a1, x_seq a2, x_seq a3, x_seq a4, x_seq a5, x_seq a6]
  refine (x_seq a7).trans ?_
  rw [x_seq a8, x_seq a9]
  exact x_seq a10
end Mine

end
section
set_option Elab.async false
set_option linter.all false
set_option maxRecDepth 100000
namespace Mine
theorem not_mem_M {A M B : List Nat} {x : Nat} (hx : x ≠ 46) (h : (lets (A ++ 46 :: (M ++ x :: B))).Nodup) : x ∉ M := by
  intro hm
  have e : lets (A ++ 46 :: (M ++ x :: B)) = lets A ++ (lets M ++ x :: lets B) := by simp [lets, List.filter_append, hx]
  rw [e] at h
  have h2 := (List.nodup_append.mp h).2.1
  have h3 := (List.nodup_append.mp h2).2.2
  exact h3 x (List.mem_filter.mpr ⟨hm, by simpa using hx⟩) x (List.mem_cons_self ..) rfl
theorem moved_loop {Φ : Fns} (FR : FnR Φ) {k : Nat} {picks : List Int} {r0 : List Nat} (hk : k = 3 ∨ k = 4 ∨ k = 6) (hpk : picks.length = 13) : ∀ (m t : Nat) (r : List Nat) (legs : Nat) (d p f b tu af : D), t + m = 13 → r.length = 12 → (∀ c ∈ r, Sg c) → (lets r).Nodup → t + E k r = E k r0 →
    (∀ j < k, sunk (col k j r) = sunk (col k j r0)) → (legs + inv r) % 2 = inv r0 % 2 → ownish d = false → ownish p = false → ownish f = false → ownish b = false → ownish tu = false → ownish af = false →
    ∃ legs' t' p' f' b' tu' af', forL (exec Φ lMovedB1) 5 ((List.range' t m).map natD) (W r k picks t legs d p f b tu af) = some (.next, W (coreOf k r0) k picks (E k r0) legs' t' p' f' b' tu' af') ∧ (legs' + inv (coreOf k r0)) % 2 = inv r0 % 2 ∧
      ownish t' = false ∧ ownish p' = false ∧ ownish f' = false ∧ ownish b' = false ∧ ownish tu' = false ∧ ownish af' = false ∧ (coreOf k r0).length = 12 ∧ (∀ c ∈ coreOf k r0, Sg c)
  | 0, t, r, legs, d, p, f, b, tu, af, ht, hr, _, _, hE, _, _, _, _, _, _, _, _ => by
    have := E_bound (r := r0) hk
    lia
  | m + 1, t, r, legs, d, p, f, b, tu, af, ht, hr, hs, hn, hE, hsk, hp2, hd, hp, hf, hb, htu, haf => by
    have hk3 : 3 ≤ k ∧ k ≤ 6 := by lia
    have hlt : ∀ c ∈ r, c < 256 := fun c hc => by have := (hs c hc).lt; lia
    by_cases hfr : freeOf k r = []
    · have hz := free_nil hk hfr
      have hE0 := E_zero hz
      have hcore : coreOf k r0 = r := (core_congr hsk).symm.trans (core_done hk hr hz)
      rw [hE0, Nat.add_zero] at hE
      rw [hcore, ← hE]
      have a1 : exec Φ (S.asg 7 (X.comp false [1, 0] (X.f2 F2.range (X.v 1) (X.c (Sc.int 12))) (some (X.and (X.cmp COp.ne (X.idx (X.v 2) (X.v 0)) (X.c (Sc.int 46))) (X.cmp COp.eq (X.idx (X.v 2) (X.bin BOp.sub (X.v 0) (X.v 1))) (X.c (Sc.int 46))))) (X.v 0)))
          (W r k picks t legs (natD t) p f b tu af) = some (.next, W r k picks t legs (natD t) p (.list (sInt [])) b tu af) := by
        have := free_run Φ (ρ := W r k picks t legs (natD t) p f b tu af) (by lia) hr hlt rfl rfl
        rw [hfr] at this
        exact (x_asg (by simp [freeAt, W, hf]) this).trans rfl
      have body : exec Φ lMovedB1 (W r k picks t legs (natD t) p f b tu af) = some (.brk, W r k picks t legs (natD t) p (.list (sInt [])) b tu af) := by
        unfold lMovedB1
        rw [x_seq a1]
        exact x_stop ((x_true (x := .sc (.bool true)) rfl rfl).trans rfl) (fun e => nomatch e)
      refine ⟨legs, natD t, p, .list (sInt []), b, tu, af, ?_, hp2, rfl, hp, rfl, hb, htu, haf, hr, hs⟩
      rw [List.range'_succ, List.map_cons]
      exact f_brk (by simp [freeAt, W, hd]) body
    · obtain ⟨A, M, B, x, p', f', b', tu', af', rfl, hM, hx, h12, q1, q2, q3, q4, q5, body⟩ := moved_turn FR (steps := t) (legs := legs) (picks := picks) hk hr hs hpk (show t < 13 by lia) hp hf hb htu haf hfr
      have hdk : 12 % k = 0 := by rcases hk with rfl | rfl | rfl <;> rfl
      have hxM := not_mem_M hx hn
      obtain ⟨l', t', p2, f2, b2, tu2, af2, ih, hpar⟩ := moved_loop FR hk hpk m (t + 1) (A ++ x :: (M ++ 46 :: B)) (legs + (M.filter (· != 46)).length) (natD t) p' f' b' tu' af' (by lia) (by rw [← hr]; simp)
        (fun c hc => hs c (by
          simp only [List.mem_append, List.mem_cons] at hc ⊢
          rcases hc with h | h | h | h | h <;> simp [h]))
        ((lets_perm A M B hx).nodup_iff.mpr hn)
        (by have := move_E (k := k) (B := B) (by lia) hdk hx hM h12; lia)
        (fun j hj => (move_sunk (by lia) hdk hx hM h12 j hj).trans (hsk j hj))
        (by have := inv_move A M B hx hxM; lia)
        rfl q1 q2 q3 q4 q5
      refine ⟨l', t', p2, f2, b2, tu2, af2, ?_, hpar⟩
      rw [List.range'_succ, List.map_cons]
      exact (f_cons (by simp [freeAt, W, hd]) body).trans ih
theorem moved_run {Φ : Fns} (FR : FnR Φ) {k : Nat} {picks : List Int} {r0 : List Nat} (hk : k = 3 ∨ k = 4 ∨ k = 6) (hpk : picks.length = 13) (hr : r0.length = 12) (hs : ∀ c ∈ r0, Sg c) (hn : (lets r0).Nodup) (h0 : inv r0 = 0) :
    runFn Φ lMoved 8 [bD r0, natD k, .list (picks.map .int)] = some (.list [strS (coreOf k r0), natS (E k r0), natS (inv (coreOf k r0) % 2)]) := by
  obtain ⟨l', t', p', f', b', tu', af', hloop, hpar, q0, q1, q2, q3, q4, q5, hcl, hcs⟩ := moved_loop FR (r0 := r0) hk hpk 13 0 r0 0 .undef .undef .undef .undef .undef .undef (by lia) hr hs hn (by lia) (fun _ _ => rfl) (by lia) rfl rfl rfl rfl rfl rfl
  have hl2 : l' % 2 = inv (coreOf k r0) % 2 := by lia
  refine run_ret (d := .list [strS (coreOf k r0), natS (E k r0), natS (inv (coreOf k r0) % 2)]) (ρ1 := W (coreOf k r0) k picks (E k r0) l' t' p' f' b' tu' af') ?_ rfl
  show exec Φ lMoved [bD r0, natD k, .list (picks.map .int), .undef, .undef, .undef, .undef, .undef, .undef, .undef, .undef] = _
  unfold lMoved
  have s1 : exec Φ (S.asg 3 (X.c (Sc.int 0))) [bD r0, natD k, .list (picks.map .int), .undef, .undef, .undef, .undef, .undef, .undef, .undef, .undef] = some (.next, [bD r0, natD k, .list (picks.map .int), natD 0, .undef, .undef, .undef, .undef, .undef, .undef, .undef]) := rfl
  have s2 : exec Φ (S.asg 4 (X.c (Sc.int 0))) [bD r0, natD k, .list (picks.map .int), natD 0, .undef, .undef, .undef, .undef, .undef, .undef, .undef] = some (.next, W r0 k picks 0 0 .undef .undef .undef .undef .undef .undef) := rfl
  have s3 : exec Φ (S.for_ 5 (X.f1 F1.range (X.c (Sc.int 13))) lMovedB1) (W r0 k picks 0 0 .undef .undef .undef .undef .undef .undef) = some (.next, W (coreOf k r0) k picks (E k r0) l' t' p' f' b' tu' af') := by
    refine (x_for (x := .rng 0 (13 : Nat) 1) ?_ (items1 (n := 13) (by lia)) (by simp)).trans hloop
    exact range1 Φ (n := 13) (by lia)
  rw [x_seq s1, x_seq s2, x_seq s3]
  have hfz : (W (coreOf k r0) k picks (E k r0) l' t' p' f' b' tu' af').map freeze = W (coreOf k r0) k picks (E k r0) l' t' p' f' b' tu' af' := by
    have fz : ∀ d, ownish d = false → freeze d = d := fun d h => by cases d <;> first | rfl | (cases h; done)
    have fb : ∀ r, freeze (bD r) = bD r := fun _ => rfl
    have fn : ∀ n, freeze (natD n) = natD n := fun _ => rfl
    have fl : ∀ l, freeze (.list l) = .list l := fun _ => rfl
    simp only [W, List.map_cons, List.map_nil, fb, fn, fl, fz _ q0, fz _ q1, fz _ q2, fz _ q3, fz _ q4, fz _ q5]
  have hcln : clean (W (coreOf k r0) k picks (E k r0) l' t' p' f' b' tu' af') = true := by
    have fb : ∀ r, ownish (bD r) = false := fun _ => rfl
    have fn : ∀ n, ownish (natD n) = false := fun _ => rfl
    have fl : ∀ l, ownish (.list l) = false := fun _ => rfl
    simp only [clean, W, List.all_cons, List.all_nil, fb, fn, fl, q0, q1, q2, q3, q4, q5, Bool.not_false, Bool.and_self]
  refine x_stop (x_ret (d := .list [strS (coreOf k r0), natS (E k r0), natS (inv (coreOf k r0) % 2)]) ?_ (by rw [hcln]; rfl)) (fun e => nomatch e)
  rw [hfz]
  have e1 : ev Φ (X.m0 M0.decode (X.v 0)) (W (coreOf k r0) k picks (E k r0) l' t' p' f' b' tu' af') = some (strD (coreOf k r0)) := dec_b (by lia) (by lia) fun c hc => by have := (hcs c hc).lt; lia
  have e3 : ev Φ (X.bin BOp.mod (X.v 4) (X.c (Sc.int 2))) (W (coreOf k r0) k picks (E k r0) l' t' p' f' b' tu' af') = some (natD (inv (coreOf k r0) % 2)) := by
    show some (D.sc (.int ((l' : Int).fmod 2))) = _
    have : (l' : Int).fmod 2 = ((l' % 2 : Nat) : Int) := by
      rw [Int.fmod_eq_emod_of_nonneg _ (by decide)]; lia
    rw [this, hl2]; rfl
  show (Option.bind (ev Φ (X.m0 M0.decode (X.v 0)) _) fun u => Option.bind (some (natD (E k r0))) fun v => Option.bind (ev Φ (X.bin BOp.mod (X.v 4) (X.c (Sc.int 2))) _) fun w => sc3 u v w) = _
  rw [e1, e3]
  rfl
end Mine

end
section
set_option Elab.async false
set_option linter.all false
set_option maxRecDepth 100000
namespace Mine
/-! hooks are distances -/
noncomputable def dF : Nat → List Nat → List Nat
  | _, [] => []
  | n, c :: r => dF (n + 1) r ++ (if c = 46 then [n + 1] else [])
noncomputable def hd : List Nat → List Nat
  | [] => []
  | c :: r => (if c = 46 then [] else dF 0 r) ++ hd r
theorem dF_shift : ∀ (r : List Nat) (n m : Nat), dF (n + m) r = (dF n r).map (· + m)
  | [], n, m => rfl
  | c :: r, n, m => by
    have ih := dF_shift r (n + 1) m
    have e : n + m + 1 = n + 1 + m := by lia
    simp only [dF, List.map_append, e, ih]
    split
    · simp
    · rfl
theorem arms : ∀ r : List Nat, ((List.range (dots r)).map fun s => dots r - s - 1 + ((partsR r).filter fun q => decide (s < q)).length + 1) = dF 0 r
  | [] => rfl
  | c :: r => by
    have ih := arms r
    have hsh := dF_shift r 0 1
    by_cases hc : c = 46
    · subst hc
      have hd1 : dots (46 :: r) = dots r + 1 := by simp [dots]
      have hp : partsR (46 :: r) = partsR r := by simp [partsR]
      rw [hd1, hp, List.range_succ, List.map_append]
      show _ = dF 1 r ++ [1]
      rw [show (1 : Nat) = 0 + 1 from rfl, hsh, ← ih, List.map_map]
      congr 1
      · refine List.map_congr_left fun s hs => ?_
        have := List.mem_range.mp hs
        simp only [Function.comp]
        lia
      · have hf : ((partsR r).filter fun q => decide (dots r < q)) = [] := by
          rw [List.filter_eq_nil_iff]
          intro q hq
          have := partsR_bound r q hq
          simp; lia
        simp [hf]
    · have hd1 : dots (c :: r) = dots r := by simp [dots, List.count_cons, hc]
      have hp : partsR (c :: r) = dots r :: partsR r := by simp [partsR, hc]
      rw [hd1, hp]
      have e : dF 0 (c :: r) = dF 1 r := by simp [dF, hc]
      rw [e, show (1 : Nat) = 0 + 1 from rfl, hsh, ← ih, List.map_map]
      refine List.map_congr_left fun s hs => ?_
      have := List.mem_range.mp hs
      simp only [Function.comp, List.filter_cons]
      have : decide (s < dots r) = true := by simpa using this
      rw [this]
      simp only [if_true, List.length_cons]
      lia
theorem hk_hd : ∀ d : List Nat, hkOf (partsR d) = hd d
  | [] => rfl
  | c :: r => by
    have ih := hk_hd r
    unfold partsR
    by_cases hc : c = 46
    · rw [if_pos hc, ih]; simp [hd, hc]
    · rw [if_neg hc]
      show _ ++ hkOf (partsR r) = (if c = 46 then [] else dF 0 r) ++ hd r
      rw [ih, if_neg hc, arms r]
/-- how many letters stand so far behind a point (far + 1), in a row read from its end -/
noncomputable def Mp (w : Nat) : List Nat → Nat
  | [] => 0
  | c :: r => (if c ≠ 46 ∧ r[w]? = some 46 then 1 else 0) + Mp w r
theorem dF_count : ∀ (r : List Nat) (n w : Nat), (dF n r).count (n + w + 1) = if r[w]? = some 46 then 1 else 0
  | [], n, w => by simp [dF]
  | c :: r, n, w => by
    unfold dF
    rw [List.count_append]
    cases w with
    | zero =>
      have h0 : (dF (n + 1) r).count (n + 0 + 1) = 0 := by
        rw [List.count_eq_zero]
        have : ∀ (r : List Nat) (m x : Nat), x ∈ dF m r → m < x := by
          intro r
          induction r with
          | nil => intro m x h; simp [dF] at h
          | cons c r ih =>
            intro m x h
            unfold dF at h
            rcases List.mem_append.mp h with h | h
            · have := ih (m + 1) x h; lia
            · split at h
              · simp at h; lia
              · simp at h
        intro hm
        have := this r (n + 1) _ hm
        lia
      rw [h0]
      by_cases hc : c = 46 <;> simp [hc]
    | succ w =>
      have ih := dF_count r (n + 1) w
      have e : n + 1 + w + 1 = n + (w + 1) + 1 := by lia
      rw [e] at ih
      rw [ih]
      have : (if c = 46 then [n + 1] else ([] : List Nat)).count (n + (w + 1) + 1) = 0 := by
        split
        · rw [List.count_eq_zero]; simp
        · rfl
      rw [this]
      simp
theorem hd_count : ∀ (d : List Nat) (w : Nat), (hd d).count (w + 1) = Mp w d
  | [], w => rfl
  | c :: r, w => by
    have ih := hd_count r w
    have hf := dF_count r 0 w
    rw [Nat.zero_add] at hf
    unfold hd Mp
    rw [List.count_append, ih]
    congr 1
    by_cases hc : c = 46
    · simp [hc]
    · rw [if_neg hc, hf]
      simp [hc]
theorem hd_pos : ∀ (d : List Nat), 0 ∉ hd d
  | [], h => by simp [hd] at h
  | c :: r, h => by
    unfold hd at h
    rcases List.mem_append.mp h with h | h
    · split at h
      · simp at h
      · have : ∀ (r : List Nat) (m x : Nat), x ∈ dF m r → m < x := by
          intro r
          induction r with
          | nil => intro m x h; simp [dF] at h
          | cons c r ih =>
            intro m x h
            unfold dF at h
            rcases List.mem_append.mp h with h | h
            · have := ih (m + 1) x h; lia
            · split at h
              · simp at h; lia
              · simp at h
        have := this r 0 0 h
        lia
    · exact hd_pos r h
theorem Mp_far : ∀ (d : List Nat) (w : Nat), d.length ≤ w + 1 → Mp w d = 0
  | [], w, _ => rfl
  | c :: r, w, h => by
    have ih := Mp_far r w (by simp at h; lia)
    unfold Mp
    have : r[w]? = none := List.getElem?_eq_none (by simp at h; lia)
    rw [ih, this]
    simp
noncomputable def colHooks (k : Nat) (r : List Nat) : List Nat := (List.range k).flatMap fun j => hkOf (partsR (col k j r).reverse)
noncomputable def rowHooks (k : Nat) (r : List Nat) : List Nat := ((hkOf (partsR r.reverse)).filter fun h => decide (h % k = 0)).map (· / k)
theorem count_quot {k v : Nat} (hk : 0 < k) (H : List Nat) : ((H.filter fun h => decide (h % k = 0)).map (· / k)).count v = H.count (v * k) := by
  induction H with
  | nil => rfl
  | cons a H ih =>
    rw [List.filter_cons]
    by_cases ha : a % k = 0
    · have hd := Nat.div_add_mod a k
      rw [ha, Nat.add_zero] at hd
      simp only [ha, decide_true, if_true, List.map_cons, List.count_cons, ih]
      congr 1
      by_cases hv : a / k = v
      · subst hv
        have : a = a / k * k := by rw [Nat.mul_comm]; exact hd.symm
        simp [← this]
      · have : a ≠ v * k := fun e => hv (by rw [e, Nat.mul_div_cancel _ hk])
        simp [hv, this]
    · have : a ≠ v * k := fun e => ha (by rw [e, Nat.mul_mod_left])
      simp only [ha, decide_false, Bool.false_eq_true, if_false, ih, List.count_cons]
      simp [this]
theorem count_flat {f : Nat → List Nat} (v : Nat) : ∀ k, ((List.range k).flatMap f).count v = ((List.range k).map fun j => (f j).count v).sum
  | 0 => rfl
  | k + 1 => by
    have ih := count_flat (f := f) v k
    rw [List.range_succ, List.flatMap_append, List.count_append, ih]
    simp
theorem col_len' (k j : Nat) (r : List Nat) : (col k j r).reverse.length = 12 / k := by rw [List.length_reverse, col_len]
/-- the pairs that Mp weighs, by places -/
noncomputable def prs (w : Nat) : List Nat → List (Nat × Option Nat)
  | [] => []
  | c :: r => (c, r[w]?) :: prs w r
noncomputable def wgt (g : Nat → Nat) (p : Nat × Option Nat) : Nat := if g p.1 ≠ 46 ∧ p.2.map g = some 46 then 1 else 0
theorem Mp_map (w : Nat) (g : Nat → Nat) : ∀ L : List Nat, Mp w (L.map g) = ((prs w L).map (wgt g)).sum
  | [] => rfl
  | c :: r => by
    show (if g c ≠ 46 ∧ (r.map g)[w]? = some 46 then 1 else 0) + Mp w (r.map g) = _
    rw [Mp_map w g r, List.getElem?_map]
    rfl
theorem sums_flat {α : Type} (F : α → Nat) (q : Nat → List α) : ∀ l : List Nat, (l.map fun j => ((q j).map F).sum).sum = ((l.flatMap q).map F).sum
  | [] => rfl
  | j :: l => by
    rw [List.flatMap_cons, List.map_append, List.sum_append, ← sums_flat F q l]
    rfl
theorem map_all {r : List Nat} (hr : r.length = 12) : r.reverse = (List.range 12).reverse.map fun i => r.getD i 0 := by
  rw [List.map_reverse]
  refine congrArg _ (List.ext_getElem (by rw [List.length_map, List.length_range, hr]) fun i h1 h2 => ?_)
  rw [List.getElem_map, List.getElem_range, List.getD_eq_getElem?_getD, List.getElem?_eq_getElem h1]
  rfl
theorem map_col (k j : Nat) (r : List Nat) : (col k j r).reverse = ((List.range (12 / k)).map fun i => i * k + j).reverse.map fun i => r.getD i 0 := by
  rw [List.map_reverse, List.map_map]
  rfl
theorem near {k v w : Nat} {r : List Nat} (hr : r.length = 12)
    (h : ((List.range k).flatMap fun j => prs v ((List.range (12 / k)).map fun i => i * k + j).reverse).Perm (prs w (List.range 12).reverse)) :
    ((List.range k).map fun j => Mp v (col k j r).reverse).sum = Mp w r.reverse := by
  rw [map_all hr, Mp_map, ← (h.map _).sum_nat, ← sums_flat]
  exact congrArg (fun f => ((List.range k).map f).sum) (funext fun j => by rw [map_col, Mp_map])
theorem quotient {k : Nat} {r : List Nat} (hk : k = 3 ∨ k = 4 ∨ k = 6) (hr : r.length = 12) : (colHooks k r).Perm (rowHooks k r) := by
  have hk0 : 0 < k := by rcases hk with rfl | rfl | rfl <;> decide
  have hk3 : k ∈ [3, 4, 6] := by rcases hk with rfl | rfl | rfl <;> decide
  have hk2 : 12 / k * k = 12 := by rcases hk with rfl | rfl | rfl <;> rfl
  rw [List.perm_iff_count]
  intro v
  unfold rowHooks colHooks
  rw [count_quot hk0, count_flat, hk_hd]
  simp only [hk_hd]
  cases v with
  | zero =>
    rw [Nat.zero_mul, List.count_eq_zero.mpr (hd_pos _)]
    exact sum_zero k fun j _ => List.count_eq_zero.mpr (hd_pos _)
  | succ v =>
    have hw : (v + 1) * k = (v + 1) * k - 1 + 1 := (Nat.succ_pred_eq_of_pos (Nat.mul_pos (Nat.succ_pos v) hk0)).symm
    by_cases hf : 12 / k ≤ v + 1
    · have hm : 12 ≤ (v + 1) * k := Nat.le_trans (Nat.le_of_eq hk2.symm) (Nat.mul_le_mul_right k hf)
      rw [hw] at hm ⊢
      simp only [hd_count]
      rw [Mp_far _ _ (by rw [List.length_reverse, hr]; exact hm)]
      exact sum_zero k fun j _ => Mp_far _ v (by rw [col_len']; exact hf)
    · rw [hw]
      simp only [hd_count]
      have all : ∀ k ∈ [3, 4, 6], ∀ v < 12 / k - 1, ((List.range k).flatMap fun j => prs v ((List.range (12 / k)).map fun i => i * k + j).reverse).Perm (prs ((v + 1) * k - 1) (List.range 12).reverse) := by
        decide +kernel
      exact near hr (all k hk3 v (Nat.lt_sub_of_add_lt (Nat.lt_of_not_le hf)))
/-! the core -/
theorem parts_calm (L : List Nat) (h : ∀ c ∈ L, c ≠ 46) : (partsR L).sum = 0 := by
  induction L with
  | nil => rfl
  | cons c L ih =>
    have hc := h c (List.mem_cons_self ..)
    have ih := ih fun x hx => h x (List.mem_cons_of_mem _ hx)
    unfold partsR
    rw [if_neg hc, List.sum_cons, ih]
    have : dots L = 0 := List.count_eq_zero.mpr fun hm => h 46 (List.mem_cons_of_mem _ hm) rfl
    lia
theorem parts_skip (n : Nat) (Q : List Nat) : partsR (List.replicate n 46 ++ Q) = partsR Q := by
  induction n with
  | zero => rfl
  | succ n ih =>
    rw [List.replicate_succ, List.cons_append]
    show (if (46 : Nat) = 46 then _ else _) = _
    rw [if_pos rfl, ih]
theorem sunk_calm (c : List Nat) : (partsR (sunk c).reverse).sum = 0 := by
  unfold sunk
  rw [List.reverse_append, List.reverse_replicate, parts_skip]
  refine parts_calm _ fun x hx => ?_
  have := (List.mem_filter.mp (List.mem_reverse.mp hx)).2
  simpa using this
theorem hkOf_len : ∀ ps : List Nat, (hkOf ps).length = ps.sum
  | [] => rfl
  | p :: ps => by
    unfold hkOf
    rw [List.length_append, hkOf_len ps]; simp
theorem hkOf_nil {ps : List Nat} (h : ps.sum = 0) : hkOf ps = [] := List.length_eq_zero_iff.mp ((hkOf_len ps).trans h)
theorem sunk_len (c : List Nat) : (sunk c).length = c.length := by
  have h1 := partsR_count c
  have h2 := partsR_letters c
  unfold sunk lets
  simp
  lia
theorem getD_range : ∀ (s : List Nat), (List.range s.length).map (fun i => s.getD i 0) = s := by
  intro s
  apply List.ext_getElem
  · simp
  · intro i h1 h2
    simp [List.getD_eq_getElem?_getD, h2]
theorem core_col {k j : Nat} {r : List Nat} (hk : k = 3 ∨ k = 4 ∨ k = 6) (hj : j < k) : col k j (coreOf k r) = sunk (col k j r) := by
  have hl : (sunk (col k j r)).length = 12 / k := by rw [sunk_len, col_len]
  have e := getD_range (sunk (col k j r))
  rw [hl] at e
  refine Eq.trans ?_ e
  rcases hk with rfl | rfl | rfl
  · have : j = 0 ∨ j = 1 ∨ j = 2 := by lia
    rcases this with rfl | rfl | rfl <;> rfl
  · have : j = 0 ∨ j = 1 ∨ j = 2 ∨ j = 3 := by lia
    rcases this with rfl | rfl | rfl | rfl <;> rfl
  · have : j = 0 ∨ j = 1 ∨ j = 2 ∨ j = 3 ∨ j = 4 ∨ j = 5 := by lia
    rcases this with rfl | rfl | rfl | rfl | rfl | rfl <;> rfl
theorem core_len {k : Nat} {r : List Nat} (hk : k = 3 ∨ k = 4 ∨ k = 6) : (coreOf k r).length = 12 := by
  rcases hk with rfl | rfl | rfl <;> simp [coreOf, coreRows, List.range_succ]
theorem core_hooks {k : Nat} {r : List Nat} (hk : k = 3 ∨ k = 4 ∨ k = 6) : ((hkOf (partsR (coreOf k r).reverse)).filter fun h => decide (h % k = 0)) = [] := by
  have hq := quotient (r := coreOf k r) hk (core_len hk)
  have hc : colHooks k (coreOf k r) = [] := by
    unfold colHooks
    rw [List.flatMap_eq_nil_iff]
    intro j hj
    rw [core_col hk (List.mem_range.mp hj)]
    exact hkOf_nil (sunk_calm _)
  rw [hc] at hq
  exact List.map_eq_nil_iff.mp hq.nil_eq.symm
theorem col_total {k : Nat} {r : List Nat} : (colHooks k r).length = E k r := by
  unfold colHooks E
  rw [List.length_flatMap]
  congr 1
  refine List.map_congr_left fun j _ => ?_
  exact hkOf_len _
theorem invR_desc : ∀ d : List Nat, d.Pairwise (fun a b => b < a) → invR d = 0
  | [], _ => rfl
  | x :: r, h => by
    obtain ⟨h1, h2⟩ := List.pairwise_cons.mp h
    unfold invR
    rw [invR_desc r h2]
    have : (r.filter fun y => decide (x < y)) = [] := by
      rw [List.filter_eq_nil_iff]
      intro y hy
      have := h1 y hy
      simp; lia
    rw [this]; rfl
theorem core_signs {k : Nat} {r : List Nat} (hk : k = 3 ∨ k = 4 ∨ k = 6) (hr : r.length = 12) (hs : ∀ c ∈ r, Sg c) : ∀ row ∈ coreRows k r, row.length = k ∧ ∀ c ∈ row, Sg c := by
  intro row hrow
  obtain ⟨i, hi, rfl⟩ := List.mem_map.mp hrow
  refine ⟨by simp, fun c hc => ?_⟩
  obtain ⟨j, hj, rfl⟩ := List.mem_map.mp hc
  have hi := List.mem_range.mp hi
  have hl : i < (sunk (col k j r)).length := by rw [sunk_len, col_len]; exact hi
  have hm : (sunk (col k j r)).getD i 0 ∈ sunk (col k j r) := by
    rw [List.getD_eq_getElem?_getD, List.getElem?_eq_getElem hl]
    exact List.getElem_mem _
  unfold sunk at hm ⊢
  rcases List.mem_append.mp hm with h | h
  · have := (List.mem_filter.mp h).1
    obtain ⟨i', hi', e⟩ := List.mem_map.mp this
    rw [← e]
    have hi' := List.mem_range.mp hi'
    have hlt : i' * k + j < 12 := by
      have h1 : (i' + 1) * k ≤ 12 / k * k := Nat.mul_le_mul_right k hi'
      have h2 : 12 / k * k = 12 := by rcases hk with rfl | rfl | rfl <;> rfl
      have := List.mem_range.mp hj
      rw [Nat.add_mul, Nat.one_mul] at h1
      lia
    have : i' * k + j < r.length := by lia
    rw [List.getD_eq_getElem?_getD, List.getElem?_eq_getElem this]
    exact hs _ (List.getElem_mem _)
  · exact .inl (List.eq_of_mem_replicate h)
end Mine

end
section
set_option Elab.async false
set_option linter.all false
set_option maxRecDepth 100000
namespace Mine
section
variable {Φ : Fns} {ρ : List D}
theorem ev_bin {o : BOp} {a b : X} : ev Φ (.bin o a b) ρ = (ev Φ a ρ).bind fun x => (ev Φ b ρ).bind fun y => binop o x y := rfl
theorem ev_idx {a b : X} : ev Φ (.idx a b) ρ = (ev Φ a ρ).bind fun x => (ev Φ b ρ).bind fun y => index x y := rfl
theorem ev_cmp {o : COp} {a b : X} : ev Φ (.cmp o a b) ρ = (ev Φ a ρ).bind fun x => (ev Φ b ρ).bind fun y => (cmpop o x y).map fun b => .sc (.bool b) := rfl
theorem ev_ite {t a b : X} : ev Φ (.ite t a b) ρ = ((ev Φ t ρ).bind truthy).bind fun c => if c then ev Φ a ρ else ev Φ b ρ := rfl
theorem ev_c {v : Sc} : ev Φ (.c v) ρ = some (.sc v) := rfl
theorem ev_neg {a : X} : ev Φ (.neg a) ρ = (ev Φ a ρ).bind fun x => x.int?.map fun i => .sc (.int (-i)) := rfl
theorem ev_slU {a b : X} : ev Φ (.slU a b) ρ = (ev Φ a ρ).bind fun x => (ev Φ b ρ).bind fun y => slice x none (some y) := rfl
theorem ev_slB {a b c : X} : ev Φ (.slB a b c) ρ = (ev Φ a ρ).bind fun x => (ev Φ b ρ).bind fun y => (ev Φ c ρ).bind fun z => slice x (some y) (some z) := rfl
theorem ev_l1 {a : X} : ev Φ (.l1 a) ρ = (ev Φ a ρ).bind fun x => (asSc x).map fun c => .list [c] := rfl
theorem ev_l3 {a b c : X} : ev Φ (.l3 a b c) ρ = (ev Φ a ρ).bind fun x => (ev Φ b ρ).bind fun y => (ev Φ c ρ).bind fun z => sc3 x y z := rfl
theorem ev_f1 {f : F1} {a : X} : ev Φ (.f1 f a) ρ = (ev Φ a ρ).bind fun x => fn1 Φ f x := rfl
theorem ev_f2 {f : F2} {a b : X} : ev Φ (.f2 f a b) ρ = (ev Φ a ρ).bind fun x => (ev Φ b ρ).bind fun y => fn2 Φ f x y := rfl
theorem ev_f3 {f : F3} {a b c : X} : ev Φ (.f3 f a b c) ρ = (ev Φ a ρ).bind fun x => (ev Φ b ρ).bind fun y => (ev Φ c ρ).bind fun z => fn3 Φ f x y z := rfl
theorem ev_m0 {m : M0} {a : X} : ev Φ (.m0 m a) ρ = (ev Φ a ρ).bind fun x => meth0 m x := rfl
theorem ev_m1 {m : M1} {a b : X} : ev Φ (.m1 m a b) ρ = (ev Φ a ρ).bind fun x => (ev Φ b ρ).bind fun y => meth1 m x y := rfl
theorem ev_comp {cl : Bool} {fvs : List Nat} {it elt : X} : ev Φ (.comp cl fvs it none elt) ρ = (ev Φ it ρ).bind fun x => (items x).bind fun l => if sizeOk l.length = false then none else
      (collect (fun d => (ev Φ elt (d :: fvs.map fun i => (ρ[i]?).getD .undef)).bind fun y => (asSc y).map fun c => [c]) l).map .list := rfl
theorem ev_compI {cl : Bool} {fvs : List Nat} {it elt cd : X} : ev Φ (.comp cl fvs it (some cd) elt) ρ = (ev Φ it ρ).bind fun x => (items x).bind fun l => if sizeOk l.length = false then none else
      (collect (fun d => ((ev Φ cd (d :: fvs.map fun i => (ρ[i]?).getD .undef)).bind truthy).bind fun t =>
        if t then (ev Φ elt (d :: fvs.map fun i => (ρ[i]?).getD .undef)).bind fun y => (asSc y).map fun c => [c] else some []) l).map .list := rfl
theorem comp_map {α : Type} {cl : Bool} {fvs : List Nat} {it elt : X} {x : D} {l : List α} {gg : α → D} {h : α → Sc} (hi : ev Φ it ρ = some x) (hl : items x = some (l.map gg)) (hz : l.length ≤ 100000)
    (he : ∀ a ∈ l, ev Φ elt (gg a :: fvs.map fun i => (ρ[i]?).getD .undef) = some (.sc (h a))) : ev Φ (.comp cl fvs it none elt) ρ = some (.list (l.map h)) := by
  rw [ev_comp, hi, Option.bind_some, hl, Option.bind_some, if_neg (by rw [sizeOk_of (by simpa using hz)]; decide), collect_map (h := h)]
  · rfl
  · intro a ha
    rw [he a ha]; rfl
theorem comp_filter {α : Type} {cl : Bool} {fvs : List Nat} {it elt cd : X} {x : D} {l : List α} {gg : α → D} {p : α → Bool} {h : α → Sc} (hi : ev Φ it ρ = some x) (hl : items x = some (l.map gg)) (hz : l.length ≤ 100000)
    (hc : ∀ a ∈ l, ev Φ cd (gg a :: fvs.map fun i => (ρ[i]?).getD .undef) = some (.sc (.bool (p a)))) (he : ∀ a ∈ l, ev Φ elt (gg a :: fvs.map fun i => (ρ[i]?).getD .undef) = some (.sc (h a))) :
    ev Φ (.comp cl fvs it (some cd) elt) ρ = some (.list ((l.filter p).map h)) := by
  rw [ev_compI, hi, Option.bind_some, hl, Option.bind_some, if_neg (by rw [sizeOk_of (by simpa using hz)]; decide), collect_filter (p := p) (h := h)]
  · rfl
  · intro a ha
    rw [hc a ha, he a ha]
    cases p a <;> rfl
end
structure FnL (Φ : Fns) : Prop where
  encode : ∀ (l : List Nat) (k : Nat), (k = 3 ∨ k = 4 ∨ k = 6) → l.length = 12 → (∀ c ∈ l, Sg c) → Φ.encode (strD l) (natD (k + 1)) = some (strD (joinL [10] (pieces k l)))
  decode : ∀ R : List (List Nat), R ≠ [] → (∀ r ∈ R, 0 < r.length ∧ r.length ≤ 50 ∧ (∀ c ∈ r, tame c = true) ∧ ∀ c ∈ r, c ≠ 61) → R.flatten.length ≤ 400 → R.length ≤ 100 → Φ.decode (strD (joinL [61, 10] R)) = some (strD R.flatten)
  hooks : ∀ r : List Nat, r.length ≤ 12 → (∀ c ∈ r, Sg c) → Φ.hooks (strD r) = some (.list (sInt (hkOf (partsR r.reverse))))
  moved : ∀ (r : List Nat) (k : Nat) (picks : List Int), (k = 3 ∨ k = 4 ∨ k = 6) → picks.length = 13 → r.length = 12 → (∀ c ∈ r, Sg c) → (lets r).Nodup → inv r = 0 →
    Φ.moved (bD r) (natD k) (.list (picks.map .int)) = some (.list [strS (coreOf k r), natS (E k r), natS (inv (coreOf k r) % 2)])
noncomputable def tips : List Int := [0, 0, 1, 0, 1, 1, 0, 0, 1, 1, 0, 1]
/-- the sign at a place of the text -/
noncomputable def tx (N : List Int) (i : Nat) : Nat := if (N.getD i 0 + tips.getD i 0).fmod 2 = 0 then 46 else 97 + i
noncomputable def textOf (N : List Int) : List Nat := (List.range 12).map (tx N)
theorem tx_sg (N : List Int) {i : Nat} (h : i < 12) : Sg (tx N i) := by
  unfold tx Sg
  split
  · exact .inl rfl
  · right; lia
theorem text_sg (N : List Int) : ∀ c ∈ textOf N, Sg c := by
  intro c hc
  obtain ⟨i, hi, rfl⟩ := List.mem_map.mp hc
  exact tx_sg N (List.mem_range.mp hi)
theorem text_len (N : List Int) : (textOf N).length = 12 := by simp [textOf]
theorem lets_text (N : List Int) : (lets (textOf N)).Pairwise (· < ·) := by
  unfold lets textOf
  rw [List.filter_map]
  rw [List.pairwise_map]
  have h1 : (List.range 12).Pairwise (· < ·) := List.pairwise_lt_range
  have h2 := List.Pairwise.sublist (List.filter_sublist (p := (fun x => x != 46) ∘ tx N) (l := List.range 12)) h1
  refine List.Pairwise.imp_of_mem ?_ h2
  intro a b ha hb hab
  have ga := (List.mem_filter.mp ha).2
  have gb := (List.mem_filter.mp hb).2
  have fa : tx N a = 97 + a := by
    unfold tx at ga ⊢
    simp only [Function.comp] at ga
    split at ga
    · simp at ga
    · rename_i h; rw [if_neg h]
  have fb : tx N b = 97 + b := by
    unfold tx at gb ⊢
    simp only [Function.comp] at gb
    split at gb
    · simp at gb
    · rename_i h; rw [if_neg h]
  rw [fa, fb]; lia
theorem text_nodup (N : List Int) : (lets (textOf N)).Nodup := (lets_text N).imp fun h => by lia
theorem text_inv (N : List Int) : inv (textOf N) = 0 := by
  unfold inv
  refine invR_desc _ ?_
  rw [List.pairwise_reverse]
  exact lets_text N
noncomputable def intS (i : Int) : Sc := .int i
theorem ints_back (N : List Int) : isInts (N.map .int) = some N := by
  induction N with
  | nil => rfl
  | cons a N ih => show (isInts (N.map .int)).map (a :: ·) = _; rw [ih]; rfl
noncomputable def V (S : D) (l : List D) : List D := S :: l

/-- one sign more -/
theorem law_sign (Φ : Fns) {S d1 d2 : D} {N : List Int} {i : Nat} {acc : List Nat} {rest : List D} (hN : N.length = 12) (hi : i < 12) (ha : acc.length ≤ 100) :
    exec Φ lLawB1 (S :: .list (N.map .int) :: d2 :: strD acc :: natD i :: rest) = some (.next, S :: .list (N.map .int) :: d2 :: strD (acc ++ [tx N i]) :: natD i :: rest) := by
  have e1 : index (.list (N.map .int)) (natD i) = some (.sc (.int (N.getD i 0))) := by
    simp only [index, D.int?, asSc, scInt, Option.bind_some, idx, idxL, idxS, natD]
    rw [if_pos ⟨Int.natCast_nonneg _, small_nat (by lia)⟩]
    have : i < N.length := by lia
    simp [this, List.getD_eq_getElem?_getD]
  have e2 : index (.tup (tips.map .int)) (natD i) = some (.sc (.int (tips.getD i 0))) := by
    simp only [index, D.int?, asSc, scInt, Option.bind_some, idx, idxL, idxS, natD]
    rw [if_pos ⟨Int.natCast_nonneg _, small_nat (by lia)⟩]
    have : i < tips.length := by simp [tips]; lia
    simp [this, List.getD_eq_getElem?_getD]
  have e3 : index (strD [97, 98, 99, 100, 101, 102, 103, 104, 105, 106, 107, 108]) (natD i) = some (strD [97 + i]) := by
    have h := index_str (l := [97, 98, 99, 100, 101, 102, 103, 104, 105, 106, 107, 108]) (i := i) (by simp; lia) (by simp)
    have : ∀ i, (h : i < 12) → ([97, 98, 99, 100, 101, 102, 103, 104, 105, 106, 107, 108] : List Nat)[i]'(by simpa using h) = 97 + i := by decide
    rw [this i hi] at h
    exact h
  have ht : ev Φ (X.tupc [0, 0, 1, 0, 1, 1, 0, 0, 1, 1, 0, 1]) (S :: .list (N.map .int) :: d2 :: strD acc :: natD i :: rest) = some (.tup (tips.map .int)) := by
    have : sizeOk ([0, 0, 1, 0, 1, 1, 0, 0, 1, 1, 0, 1] : List Int).length = true := sizeOk_of (by simp)
    simp only [evq_c, evq_v, evq_g, evq_bin, evq_neg, evq_cmp, evq_ite, evq_and, evq_not, evq_idx, evq_slN, evq_slL, evq_slU, evq_slB, evq_l0, evq_l1, evq_l3, evq_tupc, evq_f1, evq_f2, evq_f3, evq_m0, evq_m1, this, if_true]; rfl
  have hcond : (ev Φ (X.bin BOp.mod (X.bin BOp.add (X.idx (X.v 1) (X.v 4)) (X.idx (X.tupc [0, 0, 1, 0, 1, 1, 0, 0, 1, 1, 0, 1]) (X.v 4))) (X.c (Sc.int 2))) (S :: .list (N.map .int) :: d2 :: strD acc :: natD i :: rest)).bind truthy = some (!decide ((N.getD i 0 + tips.getD i 0).fmod 2 = 0)) := by
    have v1 : ev Φ (X.v 1) (S :: .list (N.map .int) :: d2 :: strD acc :: natD i :: rest) = some (.list (N.map .int)) := rfl
    have v4 : ev Φ (X.v 4) (S :: .list (N.map .int) :: d2 :: strD acc :: natD i :: rest) = some (natD i) := rfl
    rw [ev_bin, ev_bin, ev_idx, ev_idx, v1, v4, ht]
    simp only [Option.bind_some, e1, e2]
    rfl
  have hite : ev Φ (X.ite (X.bin BOp.mod (X.bin BOp.add (X.idx (X.v 1) (X.v 4)) (X.idx (X.tupc [0, 0, 1, 0, 1, 1, 0, 0, 1, 1, 0, 1]) (X.v 4))) (X.c (Sc.int 2))) (X.idx (X.c (Sc.str [97, 98, 99, 100, 101, 102, 103, 104, 105, 106, 107, 108])) (X.v 4)) (X.c (Sc.str [46])))
      (S :: .list (N.map .int) :: d2 :: strD acc :: natD i :: rest) = some (strD [tx N i]) := by
    have v4 : ev Φ (X.v 4) (S :: .list (N.map .int) :: d2 :: strD acc :: natD i :: rest) = some (natD i) := rfl
    rw [ev_ite, hcond, ev_idx, ev_c, ev_c, v4]
    have e3' : index (.sc (.str [97, 98, 99, 100, 101, 102, 103, 104, 105, 106, 107, 108])) (natD i) = some (strD [97 + i]) := e3
    simp only [Option.bind_some, e3']
    unfold tx
    by_cases h : (N.getD i 0 + tips.getD i 0).fmod 2 = 0
    · rw [decide_eq_true h, if_pos h]; rfl
    · rw [decide_eq_false h, if_neg h]; rfl
  unfold lLawB1
  exact x_seq ((x_aug (x := strD acc) (y := strD [tx N i]) (z := strD (acc ++ [tx N i])) rfl hite (add_str' (by simp; lia))).trans rfl)
theorem law_signs (Φ : Fns) {S d2 : D} {N : List Int} {rest : List D} (hN : N.length = 12) : ∀ (m i : Nat) (d4 : D), i + m = 12 → ownish d4 = false →
    ∃ d4', ownish d4' = false ∧ forL (exec Φ lLawB1) 4 ((List.range' i m).map natD) (S :: .list (N.map .int) :: d2 :: strD ((List.range i).map (tx N)) :: d4 :: rest) = some (.next, S :: .list (N.map .int) :: d2 :: strD (textOf N) :: d4' :: rest)
  | 0, i, d4, h, hd => ⟨d4, hd, by
      obtain rfl : i = 12 := by lia
      rfl⟩
  | m + 1, i, d4, h, hd => by
    obtain ⟨d', hd', ih⟩ := law_signs Φ (S := S) (d2 := d2) (rest := rest) hN m (i + 1) (natD i) (by lia) rfl
    refine ⟨d', hd', ?_⟩
    rw [List.range'_succ, List.map_cons]
    have hb := law_sign Φ (S := S) (d1 := d4) (d2 := d2) (acc := (List.range i).map (tx N)) (rest := rest) hN (show i < 12 by lia) (by simp; lia)
    have e : (List.range (i + 1)).map (tx N) = (List.range i).map (tx N) ++ [tx N i] := by rw [List.range_succ]; simp
    rw [← e] at hb
    exact (f_cons (by simp [freeAt, hd]) hb).trans ih
theorem splitNL_to (a rest cur : List Nat) (h : ∀ c ∈ a, c ≠ 10) : splitOnNL (a ++ 10 :: rest) cur = (cur.reverse ++ a) :: splitOnNL rest [] := by
  induction a generalizing cur with
  | nil => simp [splitOnNL]
  | cons c a ih =>
    have h1 : c ≠ 10 := h c (List.mem_cons_self ..)
    show (if c = 10 then _ else splitOnNL (a ++ 10 :: rest) (c :: cur)) = _
    rw [if_neg h1, ih (c :: cur) fun x hx => h x (List.mem_cons_of_mem _ hx)]
    simp
theorem splitNL_end (a cur : List Nat) (h : ∀ c ∈ a, c ≠ 10) : splitOnNL a cur = [cur.reverse ++ a] := by
  induction a generalizing cur with
  | nil => simp [splitOnNL]
  | cons c a ih =>
    have h1 : c ≠ 10 := h c (List.mem_cons_self ..)
    show (if c = 10 then _ else splitOnNL a (c :: cur)) = _
    rw [if_neg h1, ih (c :: cur) fun x hx => h x (List.mem_cons_of_mem _ hx)]
    simp
theorem splitNL_join : ∀ R : List (List Nat), R ≠ [] → (∀ r ∈ R, ∀ c ∈ r, c ≠ 10) → splitOnNL (joinL [10] R) [] = R
  | [], h, _ => absurd rfl h
  | [a], _, h => by show splitOnNL a [] = [a]; rw [splitNL_end a [] (h a (List.mem_cons_self ..))]; simp
  | a :: b :: r, _, h => by
    have ih := splitNL_join (b :: r) (by simp) fun x hx => h x (List.mem_cons_of_mem _ hx)
    show splitOnNL (a ++ [10] ++ joinL [10] (b :: r)) [] = _
    have e : a ++ [10] ++ joinL [10] (b :: r) = a ++ 10 :: joinL [10] (b :: r) := by simp
    rw [e, splitNL_to _ _ _ (h a (List.mem_cons_self ..)), ih]
    simp
end Mine

end
section
set_option Elab.async false
set_option linter.all false
set_option maxRecDepth 100000
namespace Mine
theorem piece_plain {k : Nat} {l : List Nat} (hs : ∀ c ∈ l, Sg c) : ∀ p ∈ pieces k l, (∀ c ∈ p, c ≠ 10) ∧ ∀ c ∈ p, c < 128 := by
  intro p hp
  obtain ⟨i, _, rfl⟩ := List.mem_map.mp hp
  have h : ∀ c ∈ piece k l i, c = 61 ∨ Sg c := by
    intro c hc
    unfold piece cut at hc
    rcases List.mem_append.mp hc with h | h
    · exact .inr (hs c (List.mem_of_mem_take (List.mem_of_mem_drop h)))
    · split at h
      · exact .inl (List.mem_singleton.mp h)
      · cases h
  constructor <;> intro c hc <;> rcases h c hc with rfl | h
  · decide
  · unfold Sg at h; lia
  · decide
  · exact h.lt
theorem strs_plain {L : List (List Nat)} (h : ∀ p ∈ L, ∀ c ∈ p, c < 128) : (L.map strS).all plainIS = true := by
  refine List.all_eq_true.mpr fun c hc => ?_
  obtain ⟨p, hp, rfl⟩ := List.mem_map.mp hc
  exact List.all_eq_true.mpr fun c hc => by simpa using h p hp c hc
theorem isStrs_map' (m : List (List Nat)) : isStrs (m.map strS) = some m := by
  induction m with
  | nil => rfl
  | cons a m ih => show (isStrs (m.map strS)).map (a :: ·) = _; rw [ih]; rfl
/-- joined with nothing between -/
theorem join_nil (m : List (List Nat)) : joinL [] m = m.flatten := by
  induction m with
  | nil => rfl
  | cons a m ih => cases m with
    | nil => simp [joinL]
    | cons b m => show a ++ [] ++ joinL [] (b :: m) = _; rw [ih]; simp
theorem join_run {sep : List Nat} {m : List (List Nat)} (h : m.length * (sep.length + 1) + (m.map List.length).sum ≤ 100000) : meth1 .join (strD sep) (.list (m.map strS)) = some (strD (joinL sep m)) := by
  simp only [meth1, D.str?, D.list?, asSc, scStr, Option.bind_some, strD, isStrs_map', List.length_map]
  rw [if_pos (sizeOk_of h)]
theorem flat_single (m : List Nat) : (m.map fun c => [c]).flatten = m := by
  induction m with
  | nil => rfl
  | cons a m ih => simp [ih]
theorem single_join {m : List Nat} (h : m.length ≤ 1000) : meth1 .join (strD []) (.list (m.map fun c => strS [c])) = some (strD m) := by
  have e : (m.map fun c => strS [c]) = (m.map fun c => [c]).map strS := by rw [List.map_map]; rfl
  have hs : ((m.map fun c => [c]).map List.length).sum = m.length := by
    clear h e
    induction m with
    | nil => rfl
    | cons a m ih => simp at ih ⊢; lia
  rw [e, join_run (by rw [hs]; simp; lia), join_nil, flat_single]
theorem piece_get {k : Nat} {l : List Nat} (hk : k = 3 ∨ k = 4 ∨ k = 6) (hl : l.length = 12) {i j : Nat} (hi : i < 12 / k) (hj : j < k) : (piece k l i).getD j 0 = l.getD (i * k + j) 0 ∧ j < (piece k l i).length ∧ (piece k l i).length ≤ 1000 := by
  have h12 : i * k + k ≤ 12 := by
    have h1 : (i + 1) * k ≤ 12 / k * k := Nat.mul_le_mul_right k hi
    have h2 : 12 / k * k = 12 := by rcases hk with rfl | rfl | rfl <;> rfl
    rw [Nat.add_mul, Nat.one_mul] at h1; lia
  have hc : (cut l (i * k) (i * k + k)).length = k := by rw [cut_len (by lia) (by lia)]; lia
  have hkk : k ≤ 6 := by lia
  unfold piece
  refine ⟨?_, ?_, ?_⟩
  · simp only [List.getD_eq_getElem?_getD]
    rw [List.getElem?_append_left (by lia)]
    unfold cut
    rw [List.getElem?_drop, List.getElem?_take]
    rw [if_pos (by lia)]
  · rw [List.length_append]; lia
  · rw [List.length_append, hc]; split <;> simp <;> lia
/-- the columns of the text -/
theorem columns_run (Φ : Fns) {ρ : List D} {k : Nat} {l : List Nat} (hk : k = 3 ∨ k = 4 ∨ k = 6) (hl : l.length = 12) (h2 : ρ[2]? = some (natD k)) (h5 : ρ[5]? = some (.list ((pieces k l).map strS))) :
    ev Φ (X.comp true [5] (X.f1 F1.range (X.v 2)) none (X.m1 M1.join (X.c (Sc.str [])) (X.comp false [0] (X.v 1) none (X.idx (X.v 0) (X.v 1))))) ρ = some (.list (((List.range k).map fun j => col k j l).map strS)) := by
  have hkk : k ≤ 6 := by lia
  have hd : 12 / k ≤ 4 := by rcases hk with rfl | rfl | rfl <;> decide
  have v2 : ev Φ (X.v 2) ρ = some (natD k) := by simp only [evq_c, evq_v, evq_g, evq_bin, evq_neg, evq_cmp, evq_ite, evq_and, evq_not, evq_idx, evq_slN, evq_slL, evq_slU, evq_slB, evq_l0, evq_l1, evq_l3, evq_tupc, evq_f1, evq_f2, evq_f3, evq_m0, evq_m1, h2, Option.bind_some]; rfl
  have hr : ev Φ (X.f1 F1.range (X.v 2)) ρ = some (.rng 0 k 1) := by rw [ev_f1, v2]; exact range1 Φ (by lia)
  rw [comp_map (l := List.range' 0 k) (gg := natD) (h := fun j => strS (col k j l)) hr (items1 (by lia)) (by simp; lia)]
  · rw [List.map_map, List.range_eq_range']; rfl
  · intro j hj
    have hj := (List.mem_range'_1.mp hj).2
    have hσ : (natD j :: [5].map fun i => (ρ[i]?).getD .undef) = [natD j, .list ((pieces k l).map strS)] := by simp [h5]
    rw [hσ, ev_m1, ev_c]
    have hin : ev Φ (X.comp false [0] (X.v 1) none (X.idx (X.v 0) (X.v 1))) [natD j, .list ((pieces k l).map strS)] = some (.list ((col k j l).map fun c => strS [c])) := by
      have := comp_map (Φ := Φ) (ρ := [natD j, .list ((pieces k l).map strS)]) (cl := false) (fvs := [0]) (it := X.v 1) (elt := X.idx (X.v 0) (X.v 1)) (x := .list ((pieces k l).map strS)) (l := List.range (12 / k)) (gg := fun i => strD (piece k l i)) (h := fun i => strS [l.getD (i * k + j) 0])
        rfl (by simp only [items, itemsS, pieces, List.map_map]; rfl) (by simp; lia) (by
          intro i hi
          obtain ⟨g1, g2, g3⟩ := piece_get hk hl (List.mem_range.mp hi) (show j < k by lia)
          have := index_str (l := piece k l i) (i := j) g2 g3
          rw [List.getD_eq_getElem?_getD, List.getElem?_eq_getElem g2] at g1
          simp only [Option.getD_some] at g1
          rw [g1] at this
          exact this)
      rw [this]
      unfold col
      rw [List.map_map]; rfl
    rw [hin]
    exact single_join (by rw [col_len]; lia)
theorem sunk_run (Φ : Fns) {ρ : List D} {C : List (List Nat)} (h6 : ρ[6]? = some (.list (C.map strS))) (hC : C.length ≤ 100) (hl : ∀ c ∈ C, c.length ≤ 100) :
    ev Φ (X.comp false [] (X.v 6) none (X.bin BOp.add (X.m0 M0.replDot (X.v 0)) (X.bin BOp.mul (X.c (Sc.str [46])) (X.m0 M0.countDot (X.v 0))))) ρ = some (.list ((C.map sunk).map strS)) := by
  have v6 : ev Φ (X.v 6) ρ = some (.list (C.map strS)) := by simp only [evq_c, evq_v, evq_g, evq_bin, evq_neg, evq_cmp, evq_ite, evq_and, evq_not, evq_idx, evq_slN, evq_slL, evq_slU, evq_slB, evq_l0, evq_l1, evq_l3, evq_tupc, evq_f1, evq_f2, evq_f3, evq_m0, evq_m1, h6, Option.bind_some]; rfl
  rw [comp_map (l := C) (gg := strD) (h := fun c => strS (sunk c)) v6 (by simp only [items, itemsS, List.map_map]; rfl) (by lia)]
  · rw [List.map_map]; rfl
  · intro c hc
    have hcl := hl c hc
    have hz : sizeOk c.length = true := sizeOk_of (by lia)
    have hcount : c.count 46 ≤ c.length := List.count_le_length
    have e1 : meth0 .replDot (strD c) = some (strD (lets c)) := by simp only [meth0, D.str?, D.bytes?, asSc, scStr, scBytes, Option.bind_some, strD, hz, if_true]; rfl
    have e2 : meth0 .countDot (strD c) = some (natD (dots c)) := by simp only [meth0, D.str?, D.bytes?, asSc, scStr, scBytes, Option.bind_some, strD, hz, if_true]; rfl
    have e3 : binop .mul (.sc (.str [46])) (natD (dots c)) = some (strD (List.replicate (dots c) 46)) := by
      simp only [binop, binSc, binStr, binList, asSc, scInt, scBytes, binI, binS, binB, binLL, mulS, mulL, oneS, oneN, isAdd, isMul, Bool.true_and, natD, Option.bind_some]
      rw [if_pos ⟨by simp, by lia, by unfold dots; lia⟩]
      simp [strD]
    have v0 : ev Φ (X.v 0) (strD c :: ([] : List Nat).map fun i => (ρ[i]?).getD .undef) = some (strD c) := rfl
    rw [ev_bin, ev_m0, ev_bin, ev_c, ev_m0, v0]
    simp only [Option.bind_some, e1, e2, e3]
    have hlen : (lets c).length + (List.replicate (dots c) 46).length ≤ 100000 := by
      have : (lets c).length ≤ c.length := List.length_filter_le _ _
      simp [dots]; lia
    have : binop .add (strD (lets c)) (strD (List.replicate (dots c) 46)) = some (strD (sunk c)) := by
      simp only [binop, binSc, binStr, binList, asSc, scInt, scBytes, binI, binS, binB, binLL, mulS, mulL, oneS, oneN, isAdd, isMul, Bool.true_and, strD, sizeOk_of hlen, if_true, Option.bind_some]; rfl
    exact this
/-- the rows of the core, as the law writes them -/
theorem rows_run (Φ : Fns) {ρ : List D} {k : Nat} {l : List Nat} (hk : k = 3 ∨ k = 4 ∨ k = 6) (h5 : ρ[5]? = some (.list ((pieces k l).map strS))) (h7 : ρ[7]? = some (.list ((((List.range k).map fun j => col k j l).map sunk).map strS))) :
    ev Φ (X.comp true [7] (X.f1 F1.range (X.f1 F1.len (X.v 5))) none (X.m1 M1.join (X.c (Sc.str [])) (X.comp false [0] (X.v 1) none (X.idx (X.v 0) (X.v 1))))) ρ = some (.list ((coreRows k l).map strS)) := by
  have hkk : k ≤ 6 := by lia
  have hd : 12 / k ≤ 4 := by rcases hk with rfl | rfl | rfl <;> decide
  have v5 : ev Φ (X.v 5) ρ = some (.list ((pieces k l).map strS)) := by simp only [evq_c, evq_v, evq_g, evq_bin, evq_neg, evq_cmp, evq_ite, evq_and, evq_not, evq_idx, evq_slN, evq_slL, evq_slU, evq_slB, evq_l0, evq_l1, evq_l3, evq_tupc, evq_f1, evq_f2, evq_f3, evq_m0, evq_m1, h5, Option.bind_some]; rfl
  have hlen : fn1 Φ .len (.list ((pieces k l).map strS)) = some (natD (12 / k)) := by
    have hz : sizeOk ((pieces k l).map strS).length = true := sizeOk_of (by simp [pieces]; lia)
    simp only [fn1, lenOf, lenS, D.list?, D.int?, D.fba?, asSc, scInt, Option.bind_some, hz, if_true, natD]
    simp [pieces]
  have hr : ev Φ (X.f1 F1.range (X.f1 F1.len (X.v 5))) ρ = some (.rng 0 (12 / k : Nat) 1) := by rw [ev_f1, ev_f1, v5, Option.bind_some, hlen]; exact range1 Φ (by lia)
  rw [comp_map (l := List.range' 0 (12 / k)) (gg := natD) (h := fun i => strS ((List.range k).map fun j => (sunk (col k j l)).getD i 0)) hr (items1 (by lia)) (by simp; lia)]
  · rw [← List.range_eq_range']; unfold coreRows; rw [List.map_map]; rfl
  · intro i hi
    have hi := (List.mem_range'_1.mp hi).2
    have hσ : (natD i :: [7].map fun i => (ρ[i]?).getD .undef) = [natD i, .list ((((List.range k).map fun j => col k j l).map sunk).map strS)] := by simp [h7]
    rw [hσ, ev_m1, ev_c]
    have hin : ev Φ (X.comp false [0] (X.v 1) none (X.idx (X.v 0) (X.v 1))) [natD i, .list ((((List.range k).map fun j => col k j l).map sunk).map strS)] = some (.list (((List.range k).map fun j => (sunk (col k j l)).getD i 0).map fun c => strS [c])) := by
      have := comp_map (Φ := Φ) (ρ := [natD i, .list ((((List.range k).map fun j => col k j l).map sunk).map strS)]) (cl := false) (fvs := [0]) (it := X.v 1) (elt := X.idx (X.v 0) (X.v 1)) (x := .list ((((List.range k).map fun j => col k j l).map sunk).map strS)) (l := List.range k) (gg := fun j => strD (sunk (col k j l))) (h := fun j => strS [(sunk (col k j l)).getD i 0])
        rfl (by simp only [items, itemsS, List.map_map]; rfl) (by simp; lia) (by
          intro j hj
          have hsl : (sunk (col k j l)).length = 12 / k := by rw [sunk_len, col_len]
          have g : i < (sunk (col k j l)).length := by lia
          have := index_str (l := sunk (col k j l)) (i := i) g (by lia)
          have g1 : (sunk (col k j l)).getD i 0 = (sunk (col k j l))[i] := by simp [List.getD_eq_getElem?_getD, g]
          rw [← g1] at this
          exact this)
      rw [this]
      rw [List.map_map]; rfl
    rw [hin]
    exact single_join (by simp; lia)
end Mine

end
section
set_option Elab.async false
set_option linter.all false
set_option maxRecDepth 100000
namespace Mine
/-- the lines that the law awaits -/
theorem awaited_run (Φ : Fns) {ρ : List D} {k : Nat} {l : List Nat} (hk : k = 3 ∨ k = 4 ∨ k = 6) (hl : l.length = 12) (h2 : ρ[2]? = some (natD k)) (h3 : ρ[3]? = some (strD l)) :
    ev Φ (X.comp false [2, 3] (X.f3 F3.range (X.c (Sc.int 0)) (X.c (Sc.int 12)) (X.v 2)) none (X.bin BOp.add (X.slB (X.v 2) (X.v 0) (X.bin BOp.add (X.v 0) (X.v 1))) (X.ite (X.cmp COp.lt (X.bin BOp.add (X.v 0) (X.v 1)) (X.c (Sc.int 12))) (X.c (Sc.str [61])) (X.c (Sc.str []))))) ρ =
      some (.list ((pieces k l).map strS)) := by
  have hkk : 3 ≤ k ∧ k ≤ 6 := by lia
  have hd : 12 / k ≤ 4 := by rcases hk with rfl | rfl | rfl <;> decide
  have v2 : ev Φ (X.v 2) ρ = some (natD k) := by simp only [evq_c, evq_v, evq_g, evq_bin, evq_neg, evq_cmp, evq_ite, evq_and, evq_not, evq_idx, evq_slN, evq_slL, evq_slU, evq_slB, evq_l0, evq_l1, evq_l3, evq_tupc, evq_f1, evq_f2, evq_f3, evq_m0, evq_m1, h2, Option.bind_some]; rfl
  have hr : ev Φ (X.f3 F3.range (X.c (Sc.int 0)) (X.c (Sc.int 12)) (X.v 2)) ρ = some (.rng 0 12 k) := by
    rw [ev_f3, ev_c, ev_c, v2]
    exact mkRng_ok (by decide) (by decide) (small_nat (by lia)) (by lia)
  have hit : items (.rng 0 12 k) = some ((List.range (12 / k)).map fun i => natD (i * k)) := by
    rw [items_rng (by decide) (by decide) (small_nat (by lia)) (by lia)]
    unfold rangeL
    have e : ((12 - 0 + (k : Int) - 1) / k).toNat = 12 / k := by rcases hk with rfl | rfl | rfl <;> rfl
    rw [e, List.map_map]
    congr 1
    refine List.map_congr_left fun i _ => ?_
    show D.sc (.int (0 + (k : Int) * i)) = natD (i * k)
    have : (0 : Int) + (k : Int) * i = ((i * k : Nat) : Int) := by rw [Int.natCast_mul, Int.mul_comm]; lia
    rw [this]; rfl
  rw [comp_map (l := List.range (12 / k)) (gg := fun i => natD (i * k)) (h := fun i => strS (piece k l i)) hr hit (by simp; lia)]
  · unfold pieces; rw [List.map_map]; rfl
  · intro i hi
    have hi := List.mem_range.mp hi
    have h12 : i * k + k ≤ 12 := by
      have h1 : (i + 1) * k ≤ 12 / k * k := Nat.mul_le_mul_right k hi
      have h2 : 12 / k * k = 12 := by rcases hk with rfl | rfl | rfl <;> rfl
      rw [Nat.add_mul, Nat.one_mul] at h1; lia
    have hσ : (natD (i * k) :: [2, 3].map fun i => (ρ[i]?).getD .undef) = [natD (i * k), natD k, strD l] := by simp [h2, h3]
    rw [hσ]
    have s : ev Φ (X.bin BOp.add (X.v 0) (X.v 1)) [natD (i * k), natD k, strD l] = some (natD (i * k + k)) := by
      show some (D.sc (.int (((i * k : Nat) : Int) + (k : Int)))) = _
      have : ((i * k : Nat) : Int) + (k : Int) = ((i * k + k : Nat) : Int) := by lia
      rw [this]; rfl
    have sl : ev Φ (X.slB (X.v 2) (X.v 0) (X.bin BOp.add (X.v 0) (X.v 1))) [natD (i * k), natD k, strD l] = some (strD (cut l (i * k) (i * k + k))) := by
      rw [ev_slB, s]
      exact slice_str (by lia) (by lia) (by lia)
    have it : ev Φ (X.ite (X.cmp COp.lt (X.bin BOp.add (X.v 0) (X.v 1)) (X.c (Sc.int 12))) (X.c (Sc.str [61])) (X.c (Sc.str []))) [natD (i * k), natD k, strD l] = some (strD (if i * k + k < 12 then [61] else [])) := by
      rw [ev_ite, ev_cmp, s]
      show (if decide (((i * k + k : Nat) : Int) < 12) then some (strD [61]) else some (strD [])) = _
      have : decide (((i * k + k : Nat) : Int) < 12) = decide (i * k + k < 12) := by rw [decide_eq_decide]; lia
      rw [this]
      by_cases h : i * k + k < 12 <;> simp [h]
    rw [ev_bin, sl, it]
    have hc : (cut l (i * k) (i * k + k)).length = k := by rw [cut_len (by lia) (by lia)]; lia
    have hz : sizeOk ((cut l (i * k) (i * k + k)).length + (if i * k + k < 12 then [61] else ([] : List Nat)).length) = true := sizeOk_of (by rw [hc]; split <;> simp <;> lia)
    simp only [Option.bind_some, binop, binSc, binStr, binList, asSc, scInt, scBytes, binI, binS, binB, binLL, mulS, mulL, oneS, oneN, isAdd, isMul, Bool.true_and, strD, hz, if_true]
    rfl
/-- a hook that k parts is kept -/
theorem mod_test (Φ : Fns) {h k : Nat} (hk : 0 < k) : ev Φ (X.cmp COp.eq (X.bin BOp.mod (X.v 0) (X.v 1)) (X.c (Sc.int 0))) [natD h, natD k] = some (.sc (.bool (decide (h % k = 0)))) := by
  have e : binop .mod (natD h) (natD k) = some (natD (h % k)) := by
    simp only [binop, binSc, binStr, binList, asSc, scInt, scBytes, binI, binS, binB, binLL, mulS, mulL, oneS, oneN, isAdd, isMul, Bool.true_and, natD, Option.bind_some]
    rw [if_neg (by lia), Int.fmod_eq_emod_of_nonneg _ (by lia)]
    rfl
  show (Option.bind (binop .mod (natD h) (natD k)) fun x => (cmpop .eq x (.sc (.int 0))).map fun b => D.sc (.bool b)) = _
  rw [e]
  show some (D.sc (.bool (decide (((h % k : Nat) : Int) = 0)))) = _
  have : decide (((h % k : Nat) : Int) = 0) = decide (h % k = 0) := by rw [decide_eq_decide]; lia
  rw [this]
theorem div_run (Φ : Fns) {h k : Nat} (hk : 0 < k) (hk' : k ≤ 1000) : ev Φ (X.bin BOp.fdiv (X.v 0) (X.v 1)) [natD h, natD k] = some (natD (h / k)) := by
  show binop .fdiv (natD h) (natD k) = _
  simp only [binop, binSc, binStr, binList, asSc, scInt, scBytes, binI, binS, binB, binLL, mulS, mulL, oneS, oneN, isAdd, isMul, Bool.true_and, natD, Option.bind_some]
  rw [if_pos ⟨by lia, by lia⟩, Int.fdiv_eq_ediv_of_nonneg _ (by lia)]
  rfl
theorem quot_run {Φ : Fns} (FL : FnL Φ) {ρ : List D} {k : Nat} {l : List Nat} (hk : 0 < k) (hk' : k ≤ 1000) (hl : l.length = 12) (hs : ∀ c ∈ l, Sg c) (h2 : ρ[2]? = some (natD k)) (h3 : ρ[3]? = some (strD l)) :
    ev Φ (X.comp false [2] (X.f1 F1.hooks (X.v 3)) (some (X.cmp COp.eq (X.bin BOp.mod (X.v 0) (X.v 1)) (X.c (Sc.int 0)))) (X.bin BOp.fdiv (X.v 0) (X.v 1))) ρ = some (.list (sInt (rowHooks k l))) := by
  have v3 : ev Φ (X.v 3) ρ = some (strD l) := by simp only [evq_c, evq_v, evq_g, evq_bin, evq_neg, evq_cmp, evq_ite, evq_and, evq_not, evq_idx, evq_slN, evq_slL, evq_slU, evq_slB, evq_l0, evq_l1, evq_l3, evq_tupc, evq_f1, evq_f2, evq_f3, evq_m0, evq_m1, h3, Option.bind_some]; rfl
  have hb : (hkOf (partsR l.reverse)).length ≤ 144 := by
    rw [hkOf_len]
    have h1 := sum_le_mul (partsR l.reverse) 12 (fun x hx => by
      have := partsR_bound l.reverse x hx
      have h2 := partsR_count l.reverse
      rw [List.length_reverse] at h2; lia)
    have h2 := partsR_len l.reverse
    rw [List.length_reverse] at h2
    have : (partsR l.reverse).length * 12 ≤ 12 * 12 := Nat.mul_le_mul_right 12 (by lia)
    lia
  have hσ : ∀ h, (natD h :: [2].map fun i => (ρ[i]?).getD .undef) = [natD h, natD k] := fun h => by simp [h2]
  rw [comp_filter (l := hkOf (partsR l.reverse)) (gg := natD) (p := fun h => decide (h % k = 0)) (h := fun h => natS (h / k)) (by rw [ev_f1, v3]; exact FL.hooks l (by lia) hs) (by simp only [items, itemsS, sInt_D]) (by lia)
    (fun h _ => by rw [hσ]; exact mod_test Φ hk) (fun h _ => by rw [hσ]; exact div_run Φ hk hk')]
  unfold rowHooks sInt
  rw [List.map_map]; rfl
theorem none_run {Φ : Fns} (FL : FnL Φ) {ρ : List D} {k : Nat} {l : List Nat} (hk : 0 < k) (hl : l.length = 12) (hs : ∀ c ∈ l, Sg c) (h2 : ρ[2]? = some (natD k)) (h8 : ρ[8]? = some (strD l)) :
    ev Φ (X.comp false [2] (X.f1 F1.hooks (X.v 8)) (some (X.cmp COp.eq (X.bin BOp.mod (X.v 0) (X.v 1)) (X.c (Sc.int 0)))) (X.v 0)) ρ = some (.list (sInt ((hkOf (partsR l.reverse)).filter fun h => decide (h % k = 0)))) := by
  have v8 : ev Φ (X.v 8) ρ = some (strD l) := by simp only [evq_c, evq_v, evq_g, evq_bin, evq_neg, evq_cmp, evq_ite, evq_and, evq_not, evq_idx, evq_slN, evq_slL, evq_slU, evq_slB, evq_l0, evq_l1, evq_l3, evq_tupc, evq_f1, evq_f2, evq_f3, evq_m0, evq_m1, h8, Option.bind_some]; rfl
  have hb : (hkOf (partsR l.reverse)).length ≤ 144 := by
    rw [hkOf_len]
    have h1 := sum_le_mul (partsR l.reverse) 12 (fun x hx => by
      have := partsR_bound l.reverse x hx
      have h2 := partsR_count l.reverse
      rw [List.length_reverse] at h2; lia)
    have h2 := partsR_len l.reverse
    rw [List.length_reverse] at h2
    have : (partsR l.reverse).length * 12 ≤ 12 * 12 := Nat.mul_le_mul_right 12 (by lia)
    lia
  have hσ : ∀ h, (natD h :: [2].map fun i => (ρ[i]?).getD .undef) = [natD h, natD k] := fun h => by simp [h2]
  rw [comp_filter (l := hkOf (partsR l.reverse)) (gg := natD) (p := fun h => decide (h % k = 0)) (h := natS) (by rw [ev_f1, v8]; exact FL.hooks l (by lia) hs) (by simp only [items, itemsS, sInt_D]) (by lia)
    (fun h _ => by rw [hσ]; exact mod_test Φ hk) (fun h _ => rfl)]
  rfl
/-! two generators -/
theorem collect_flat {α : Type} {f : D → Option (List Sc)} {g : α → D} {h : α → List Sc} : ∀ {l : List α}, (∀ a ∈ l, f (g a) = some (h a)) → collect f (l.map g) = some (l.flatMap h)
  | [], _ => rfl
  | a :: l, hf => by
    have ih := collect_flat (l := l) fun b hb => hf b (List.mem_cons_of_mem _ hb)
    simp only [List.map_cons, collect, hf a (List.mem_cons_self ..), ih, Option.bind_some, Option.map_some, List.flatMap_cons]
theorem sizes_run {Φ : Fns} (FL : FnL Φ) {ρ : List D} {k : Nat} {l : List Nat} (hk : k = 3 ∨ k = 4 ∨ k = 6) (hl : l.length = 12) (hs : ∀ c ∈ l, Sg c) (h6 : ρ[6]? = some (.list (((List.range k).map fun j => col k j l).map strS))) :
    ev Φ (X.comp2 [] (X.v 6) (X.f1 F1.hooks (X.v 0)) none (X.v 1)) ρ = some (.list (sInt (colHooks k l))) := by
  have v6 : ev Φ (X.v 6) ρ = some (.list (((List.range k).map fun j => col k j l).map strS)) := by simp only [evq_c, evq_v, evq_g, evq_bin, evq_neg, evq_cmp, evq_ite, evq_and, evq_not, evq_idx, evq_slN, evq_slL, evq_slU, evq_slB, evq_l0, evq_l1, evq_l3, evq_tupc, evq_f1, evq_f2, evq_f3, evq_m0, evq_m1, h6, Option.bind_some]; rfl
  have hd : 12 / k ≤ 4 := by rcases hk with rfl | rfl | rfl <;> decide
  have eqn : ev Φ (X.comp2 [] (X.v 6) (X.f1 F1.hooks (X.v 0)) none (X.v 1)) ρ = (ev Φ (X.v 6) ρ).bind fun x => (items x).bind fun l => if sizeOk l.length = false then none else
      (collect (fun d => (ev Φ (X.f1 F1.hooks (X.v 0)) [d, .undef]).bind fun x2 => (items x2).bind fun l2 => if sizeOk l2.length = false then none else
        collect (fun d2 => (ev Φ (X.v 1) [d, d2]).bind fun y => (asSc y).map fun c => [c]) l2) l).bind fun r => if sizeOk r.length then some (.list r) else none := rfl
  have hit : items (.list (((List.range k).map fun j => col k j l).map strS)) = some ((List.range k).map fun j => strD (col k j l)) := by simp only [items, itemsS, List.map_map]; rfl
  have colsg : ∀ j < k, ∀ c ∈ col k j l, Sg c := by
    intro j hj c hc
    obtain ⟨i, hi, rfl⟩ := List.mem_map.mp hc
    have hi := List.mem_range.mp hi
    have hlt : i * k + j < 12 := by
      have h1 : (i + 1) * k ≤ 12 / k * k := Nat.mul_le_mul_right k hi
      have h2 : 12 / k * k = 12 := by rcases hk with rfl | rfl | rfl <;> rfl
      rw [Nat.add_mul, Nat.one_mul] at h1
      lia
    have : i * k + j < l.length := by lia
    rw [List.getD_eq_getElem?_getD, List.getElem?_eq_getElem this]
    exact hs _ (List.getElem_mem _)
  rw [eqn, v6, Option.bind_some, hit, Option.bind_some, if_neg (by rw [sizeOk_of (by simp; lia)]; decide)]
  rw [collect_flat (h := fun j => sInt (hkOf (partsR (col k j l).reverse)))]
  · have e : ((List.range k).flatMap fun j => sInt (hkOf (partsR (col k j l).reverse))) = sInt (colHooks k l) := by
      unfold colHooks sInt
      rw [List.map_flatMap]
    rw [e, Option.bind_some, sInt_len, col_total, if_pos (sizeOk_of (by have := E_bound (r := l) hk; lia))]
  · intro j hj
    have hj := List.mem_range.mp hj
    have hh := FL.hooks (col k j l) (by rw [col_len]; lia) (colsg j hj)
    have hh' : ev Φ (X.f1 F1.hooks (X.v 0)) [strD (col k j l), .undef] = some (.list (sInt (hkOf (partsR (col k j l).reverse)))) := hh
    have hb : (hkOf (partsR (col k j l).reverse)).length ≤ 4 := by
      rw [hkOf_len]
      have : colE (col k j l) ≤ 4 := by
        rcases hk with rfl | rfl | rfl
        · exact colE_bound (b := 4) (.inl ⟨by rw [col_len], rfl⟩)
        · exact Nat.le_trans (colE_bound (b := 2) (.inr (.inl ⟨by rw [col_len], rfl⟩))) (by decide)
        · exact Nat.le_trans (colE_bound (b := 1) (.inr (.inr ⟨by rw [col_len], rfl⟩))) (by decide)
      exact this
    rw [hh', Option.bind_some]
    simp only [items, itemsS, Option.bind_some, sInt_D]
    rw [if_neg (by rw [sizeOk_of (by simp; lia)]; decide)]
    exact collect_map (g := natD) (h := natS) (l := hkOf (partsR (col k j l).reverse)) (fun a _ => rfl)
end Mine

end
section
set_option Elab.async false
set_option linter.all false
set_option maxRecDepth 100000
namespace Mine
theorem sort_eq {A B : List Nat} (h : A.Perm B) : sortI (A.map fun n : Nat => (n : Int)) = sortI (B.map fun n : Nat => (n : Int)) :=
  sorted_unique ((sortI_perm _).trans ((h.map _).trans (sortI_perm _).symm)) (sortI_sorted _) (sortI_sorted _)
noncomputable def sortS (A : List Nat) : List Sc := (sortI (A.map fun n : Nat => (n : Int))).map .int
theorem sorted_run (Φ : Fns) {A : List Nat} (h : A.length < 64) : fn1 Φ .sorted (.list (sInt A)) = some (.list (sortS A)) := by
  simp only [fn1, lenOf, lenS, D.list?, D.int?, D.fba?, asSc, scInt, Option.bind_some, sInt_len, h, if_true, sum_ints, Option.map_some]; rfl
theorem sortI_len (l : List Int) : (sortI l).length = l.length := (sortI_perm l).length_eq
theorem sortS_len (A : List Nat) : (sortS A).length = A.length := by unfold sortS; rw [List.length_map, sortI_len, List.length_map]
theorem sortS_plain (A : List Nat) : (sortS A).all plainIS = true := by
  refine List.all_eq_true.mpr fun c hc => ?_
  obtain ⟨n, _, rfl⟩ := List.mem_map.mp hc
  rfl
/-! letters out of order, as the law counts them -/
noncomputable def invL (L : List Nat) : List Nat := (List.range L.length).flatMap fun i => (List.range i).filter fun j => decide (L.getD i 0 < L.getD j 0)
theorem range_filter (x : Nat) : ∀ L : List Nat, ((List.range L.length).filter fun j => decide (x < L.getD j 0)).length = (L.filter fun y => decide (x < y)).length
  | [] => rfl
  | a :: L => by
    have ih := range_filter x L
    have e : List.range (a :: L).length = 0 :: (List.range L.length).map (· + 1) := by rw [List.length_cons, List.range_succ_eq_map]
    rw [e, List.filter_cons, List.filter_map, List.filter_cons]
    have e2 : ((fun j => decide (x < (a :: L).getD j 0)) ∘ fun x => x + 1) = fun j => decide (x < L.getD j 0) := by funext i; simp
    rw [e2]
    have e3 : decide (x < (a :: L).getD 0 0) = decide (x < a) := rfl
    rw [e3]
    cases decide (x < a)
    · simp only [Bool.false_eq_true, if_false, List.length_map]; exact ih
    · simp only [if_true, List.length_map, List.length_cons]; rw [ih]
theorem invL_len (L : List Nat) : (invL L).length = invR L.reverse := by
  have key : ∀ d : List Nat, (invL d.reverse).length = invR d := by
    intro d
    induction d with
    | nil => rfl
    | cons x d ih =>
      have hl : (x :: d).reverse.length = d.reverse.length + 1 := by simp
      have hrev : (x :: d).reverse = d.reverse ++ [x] := by simp
      unfold invL at ih ⊢
      rw [hl, List.range_succ, List.flatMap_append, List.length_append]
      have g : ∀ j, j < d.reverse.length → (d.reverse ++ [x]).getD j 0 = d.reverse.getD j 0 := fun j hj => by
        simp only [List.getD_eq_getElem?_getD]; rw [List.getElem?_append_left hj]
      have gx : (d.reverse ++ [x]).getD d.reverse.length 0 = x := by
        simp only [List.getD_eq_getElem?_getD]; rw [List.getElem?_append_right (Nat.le_refl _)]; simp
      have e1 : ((List.range d.reverse.length).flatMap fun i => (List.range i).filter fun j => decide ((x :: d).reverse.getD i 0 < (x :: d).reverse.getD j 0)) =
          (List.range d.reverse.length).flatMap fun i => (List.range i).filter fun j => decide (d.reverse.getD i 0 < d.reverse.getD j 0) := by
        rw [hrev]
        rw [List.flatMap_def, List.flatMap_def]
        congr 1
        refine List.map_congr_left fun i hi => ?_
        have hi := List.mem_range.mp hi
        refine List.filter_congr fun j hj => ?_
        have hj := List.mem_range.mp hj
        rw [g i hi, g j (by lia)]
      have e2 : ([d.reverse.length].flatMap fun i => (List.range i).filter fun j => decide ((x :: d).reverse.getD i 0 < (x :: d).reverse.getD j 0)).length = (d.filter fun y => decide (x < y)).length := by
        rw [hrev, List.flatMap_cons, List.flatMap_nil, List.append_nil]
        have : ((List.range d.reverse.length).filter fun j => decide ((d.reverse ++ [x]).getD d.reverse.length 0 < (d.reverse ++ [x]).getD j 0)) = (List.range d.reverse.length).filter fun j => decide (x < d.reverse.getD j 0) := by
          refine List.filter_congr fun j hj => ?_
          rw [gx, g j (List.mem_range.mp hj)]
        rw [this, range_filter, List.filter_reverse, List.length_reverse]
      rw [e1, e2, ih]
      show _ = (d.filter fun y => decide (x < y)).length + invR d
      lia
  have := key L.reverse
  rwa [List.reverse_reverse] at this
theorem invL_small (L : List Nat) (h : L.length ≤ 12) : (invL L).length ≤ 144 := by
  unfold invL
  rw [List.length_flatMap]
  have := sum_bound (f := fun i => ((List.range i).filter fun j => decide (L.getD i 0 < L.getD j 0)).length) (b := 12) L.length (fun j hj => by
    have := List.length_filter_le (fun j' => decide (L.getD j 0 < L.getD j' 0)) (List.range j)
    simp at this ⊢; lia)
  have h2 : L.length * 12 ≤ 12 * 12 := Nat.mul_le_mul_right 12 h
  lia
theorem odd_run (Φ : Fns) {ρ : List D} {L : List Nat} (hL : L.length ≤ 12) (h10 : ρ[10]? = some (strD L)) :
    ev Φ (X.comp2 [10] (X.f1 F1.range (X.f1 F1.len (X.v 10))) (X.f1 F1.range (X.v 0)) (some (X.cmp COp.gt (X.idx (X.v 2) (X.v 1)) (X.idx (X.v 2) (X.v 0)))) (X.v 1)) ρ = some (.list (sInt (invL L))) := by
  have v10 : ev Φ (X.v 10) ρ = some (strD L) := by simp only [evq_c, evq_v, evq_g, evq_bin, evq_neg, evq_cmp, evq_ite, evq_and, evq_not, evq_idx, evq_slN, evq_slL, evq_slU, evq_slB, evq_l0, evq_l1, evq_l3, evq_tupc, evq_f1, evq_f2, evq_f3, evq_m0, evq_m1, h10, Option.bind_some]; rfl
  have hlen : fn1 Φ .len (strD L) = some (natD L.length) := by
    have hz : sizeOk L.length = true := sizeOk_of (by lia)
    simp only [fn1, lenOf, lenS, D.list?, D.int?, D.fba?, asSc, scInt, Option.bind_some, strD, hz, if_true]; rfl
  have hr : ev Φ (X.f1 F1.range (X.f1 F1.len (X.v 10))) ρ = some (.rng 0 L.length 1) := by rw [ev_f1, ev_f1, v10, Option.bind_some, hlen]; exact range1 Φ (by lia)
  have eqn : ∀ (it it2 cd elt : X), ev Φ (X.comp2 [10] it it2 (some cd) elt) ρ = (ev Φ it ρ).bind fun x => (items x).bind fun l => if sizeOk l.length = false then none else
      (collect (fun d => (ev Φ it2 (d :: .undef :: [10].map fun i => (ρ[i]?).getD .undef)).bind fun x2 => (items x2).bind fun l2 => if sizeOk l2.length = false then none else
        collect (fun d2 => ((ev Φ cd (d :: d2 :: [10].map fun i => (ρ[i]?).getD .undef)).bind truthy).bind fun t =>
          if t then (ev Φ elt (d :: d2 :: [10].map fun i => (ρ[i]?).getD .undef)).bind fun y => (asSc y).map fun c => [c] else some []) l2) l).bind fun r => if sizeOk r.length then some (.list r) else none := fun _ _ _ _ => rfl
  have hσ : ([10].map fun i => (ρ[i]?).getD D.undef) = [strD L] := by simp [h10]
  rw [eqn, hr, Option.bind_some, items1 (by lia), Option.bind_some, if_neg (by rw [sizeOk_of (by simp; lia)]; decide), hσ]
  rw [collect_flat (h := fun i => sInt ((List.range i).filter fun j => decide (L.getD i 0 < L.getD j 0)))]
  · have e : ((List.range' 0 L.length).flatMap fun i => sInt ((List.range i).filter fun j => decide (L.getD i 0 < L.getD j 0))) = sInt (invL L) := by
      unfold invL sInt
      rw [List.map_flatMap, List.range_eq_range']
    rw [e, Option.bind_some, sInt_len, if_pos (sizeOk_of (by have := invL_small L hL; lia))]
  · intro i hi
    have hi := (List.mem_range'_1.mp hi).2
    have hr2 : ev Φ (X.f1 F1.range (X.v 0)) [natD i, .undef, strD L] = some (.rng 0 i 1) := range1 Φ (by lia)
    rw [hr2, Option.bind_some, items1 (by lia), Option.bind_some, if_neg (by rw [sizeOk_of (by simp; lia)]; decide)]
    rw [collect_filter (g := natD) (p := fun j => decide (L.getD i 0 < L.getD j 0)) (h := natS)]
    · rw [List.range_eq_range']; rfl
    · intro j hj
      have hj := (List.mem_range'_1.mp hj).2
      have q1 : i < L.length := by lia
      have q2 : j < L.length := by lia
      have i1 := index_str (l := L) (i := i) q1 (by lia)
      have i2 := index_str (l := L) (i := j) q2 (by lia)
      have c1 : ev Φ (X.cmp COp.gt (X.idx (X.v 2) (X.v 1)) (X.idx (X.v 2) (X.v 0))) [natD i, natD j, strD L] = some (.sc (.bool (decide (L.getD i 0 < L.getD j 0)))) := by
        show (Option.bind (index (.sc (.str L)) (.sc (.int j))) fun u => Option.bind (index (.sc (.str L)) (.sc (.int i))) fun v => (cmpop .gt u v).map fun b => D.sc (.bool b)) = _
        rw [i1, i2]
        have g1 : L.getD i 0 = L[i] := by simp [List.getD_eq_getElem?_getD, q1]
        have g2 : L.getD j 0 = L[j] := by simp [List.getD_eq_getElem?_getD, q2]
        rw [g1, g2]
        rfl
      have c2 : ev Φ (X.v 1) [natD i, natD j, strD L] = some (natD j) := rfl
      rw [c1, c2]
      cases decide (L.getD i 0 < L.getD j 0) <;> rfl
end Mine

end
section
set_option Elab.async false
set_option linter.all false
set_option maxRecDepth 100000
namespace Mine
/-- the twelve numbers of a script -/
noncomputable def numsOf (s : List Int) : List Int := ((s.take (min 12 s.length)) ++ List.replicate 12 0).take 12
theorem nums_len (s : List Int) : (numsOf s).length = 12 := by simp [numsOf]
theorem slice_lU {l : List Sc} (hl : l.length ≤ 100000) : slice (.list l) none (some (.sc (.int 12))) = some (.list (l.take (min 12 l.length))) := by
  have hs : smallI 12 = true := by decide
  simp only [slice, sliceS, sliceGo, lim, D.int?, asSc, scInt, Option.bind_some, loI, hiI, sizeOk_of hl, Bool.true_eq_false, if_false, hs, if_true]
  have hb : bnd 12 l.length = min 12 l.length := by
    unfold bnd
    rw [if_pos (by decide)]; rfl
  rw [hb]
  simp [cut]
theorem nums_run (Φ : Fns) {s : List Int} {rest : List D} (hs : s.length ≤ 1000) : ev Φ (X.slU (X.bin BOp.add (X.slU (X.v 0) (X.c (Sc.int 12))) (X.bin BOp.mul (X.l1 (X.c (Sc.int 0))) (X.c (Sc.int 12)))) (X.c (Sc.int 12))) (.list (s.map .int) :: rest) = some (.list ((numsOf s).map .int)) := by
  have v0 : ev Φ (X.v 0) (.list (s.map .int) :: rest) = some (.list (s.map .int)) := rfl
  have h1 := slice_lU (l := s.map Sc.int) (by simp; lia)
  have h2 : ev Φ (X.bin BOp.mul (X.l1 (X.c (Sc.int 0))) (X.c (Sc.int 12))) (.list (s.map .int) :: rest) = some (.list (List.replicate 12 (Sc.int 0))) := rfl
  have h3 : binop .add (.list ((s.map Sc.int).take (min 12 (s.map Sc.int).length))) (.list (List.replicate 12 (Sc.int 0))) = some (.list ((s.map Sc.int).take (min 12 (s.map Sc.int).length) ++ List.replicate 12 (Sc.int 0))) := by
    simp only [binop, binSc, binStr, binList, asSc, scInt, scBytes, binI, binS, binB, binLL, mulS, mulL, oneS, oneN, isAdd, isMul, Bool.true_and, Option.bind_some]
    rw [if_pos (sizeOk_of (by simp; lia))]
  have h4 := slice_lU (l := (s.map Sc.int).take (min 12 (s.map Sc.int).length) ++ List.replicate 12 (Sc.int 0)) (by simp; lia)
  rw [ev_slU, ev_bin, ev_slU, v0, h2, ev_c]
  simp only [Option.bind_some, h1, h3, h4]
  have e : min 12 ((s.map Sc.int).take (min 12 (s.map Sc.int).length) ++ List.replicate 12 (Sc.int 0)).length = 12 := by simp
  rw [e]
  unfold numsOf
  simp [List.map_take, List.map_append]
theorem sum_list (Φ : Fns) {N : List Int} (h : N.length ≤ 1000) : fn1 Φ .sum (.list (N.map .int)) = some (.sc (.int N.sum)) := by
  have hz : sizeOk (N.map Sc.int).length = true := sizeOk_of (by simp; lia)
  simp only [fn1, lenOf, lenS, D.list?, D.int?, D.fba?, asSc, scInt, Option.bind_some, hz, if_true, ints_back, Option.map_some]
noncomputable def kOf (N : List Int) : Nat := if N.sum.fmod 3 = 0 then 3 else if N.sum.fmod 3 = 1 then 4 else 6
theorem kOf_ok (N : List Int) : kOf N = 3 ∨ kOf N = 4 ∨ kOf N = 6 := by
  unfold kOf
  split
  · exact .inl rfl
  · split
    · exact .inr (.inl rfl)
    · exact .inr (.inr rfl)
theorem k_run (Φ : Fns) {S : D} {N : List Int} {rest : List D} (hN : N.length = 12) : ev Φ (X.idx (X.tupc [3, 4, 6]) (X.bin BOp.mod (X.f1 F1.sum (X.v 1)) (X.c (Sc.int 3)))) (S :: .list (N.map .int) :: rest) = some (natD (kOf N)) := by
  have v1 : ev Φ (X.v 1) (S :: .list (N.map .int) :: rest) = some (.list (N.map .int)) := rfl
  have ht : ev Φ (X.tupc [3, 4, 6]) (S :: .list (N.map .int) :: rest) = some (.tup [.int 3, .int 4, .int 6]) := by
    have : sizeOk ([3, 4, 6] : List Int).length = true := sizeOk_of (by simp)
    simp only [evq_c, evq_v, evq_g, evq_bin, evq_neg, evq_cmp, evq_ite, evq_and, evq_not, evq_idx, evq_slN, evq_slL, evq_slU, evq_slB, evq_l0, evq_l1, evq_l3, evq_tupc, evq_f1, evq_f2, evq_f3, evq_m0, evq_m1, this, if_true]; rfl
  rw [ev_idx, ht, ev_bin, ev_f1, v1, ev_c, Option.bind_some, Option.bind_some, sum_list Φ (by lia), Option.bind_some, Option.bind_some]
  have hm : binop .mod (.sc (.int N.sum)) (.sc (.int 3)) = some (.sc (.int (N.sum.fmod 3))) := rfl
  rw [hm, Option.bind_some]
  have h0 : 0 ≤ N.sum.fmod 3 := Int.fmod_nonneg_of_pos _ (by decide)
  have h3 : N.sum.fmod 3 < 3 := Int.fmod_lt_of_pos _ (by decide)
  unfold kOf
  generalize N.sum.fmod 3 = m at *
  have : m = 0 ∨ m = 1 ∨ m = 2 := by lia
  rcases this with rfl | rfl | rfl <;> rfl
theorem lines_run {Φ : Fns} (FL : FnL Φ) {ρ : List D} {k : Nat} {l : List Nat} (hk : k = 3 ∨ k = 4 ∨ k = 6) (hl : l.length = 12) (hs : ∀ c ∈ l, Sg c) (h2 : ρ[2]? = some (natD k)) (h3 : ρ[3]? = some (strD l)) :
    ev Φ (X.m0 M0.splitNL (X.f2 F2.encode (X.v 3) (X.bin BOp.add (X.v 2) (X.c (Sc.int 1))))) ρ = some (.list ((pieces k l).map strS)) := by
  have v2 : ev Φ (X.v 2) ρ = some (natD k) := by simp only [evq_c, evq_v, evq_g, evq_bin, evq_neg, evq_cmp, evq_ite, evq_and, evq_not, evq_idx, evq_slN, evq_slL, evq_slU, evq_slB, evq_l0, evq_l1, evq_l3, evq_tupc, evq_f1, evq_f2, evq_f3, evq_m0, evq_m1, h2, Option.bind_some]; rfl
  have v3 : ev Φ (X.v 3) ρ = some (strD l) := by simp only [evq_c, evq_v, evq_g, evq_bin, evq_neg, evq_cmp, evq_ite, evq_and, evq_not, evq_idx, evq_slN, evq_slL, evq_slU, evq_slB, evq_l0, evq_l1, evq_l3, evq_tupc, evq_f1, evq_f2, evq_f3, evq_m0, evq_m1, h3, Option.bind_some]; rfl
  have hadd : binop .add (natD k) (.sc (.int 1)) = some (natD (k + 1)) := by simp only [binop, binSc, binStr, binList, asSc, scInt, scBytes, binI, binS, binB, binLL, mulS, mulL, oneS, oneN, isAdd, isMul, Bool.true_and, natD, Option.bind_some]; norm_cast
  rw [ev_m0, ev_f2, ev_bin, v2, v3, ev_c]
  simp only [Option.bind_some, hadd, fn2, D.int?, asSc, scInt]
  rw [FL.encode l k hk hl hs, Option.bind_some]
  have hp := piece_plain (k := k) hs
  have hjl : (joinL [10] (pieces k l)).length ≤ 1000 := by
    have hd : 12 / k ≤ 4 := by rcases hk with rfl | rfl | rfl <;> decide
    have hb : ∀ R : List (List Nat), (∀ x ∈ R, x.length ≤ 20) → (joinL [10] R).length ≤ 21 * R.length := by
      intro R
      induction R with
      | nil => intro _; simp [joinL]
      | cons a R ih =>
        intro h
        have h1 := h a (List.mem_cons_self ..)
        have h2 := ih fun x hx => h x (List.mem_cons_of_mem _ hx)
        cases R with
        | nil => simp [joinL]; lia
        | cons b R =>
          show (a ++ [10] ++ joinL [10] (b :: R)).length ≤ _
          simp only [List.length_append, List.length_cons, List.length_nil] at h2 ⊢
          lia
    have := hb (pieces k l) (fun x hx => by
      obtain ⟨i, _, rfl⟩ := List.mem_map.mp hx
      unfold piece cut
      simp only [List.length_append, List.length_drop, List.length_take]
      split <;> simp <;> lia)
    have h3 : (pieces k l).length ≤ 4 := by simp [pieces]; lia
    lia
  have hne : pieces k l ≠ [] := by
    intro e
    have := congrArg List.length e
    simp [pieces] at this
    rcases hk with rfl | rfl | rfl <;> lia
  simp only [meth0, D.str?, D.bytes?, asSc, scStr, scBytes, Option.bind_some, strD, sizeOk_of (show (joinL [10] (pieces k l)).length ≤ 100000 by lia), if_true]
  rw [splitNL_join _ hne fun p h => (hp p h).1]
  rfl
theorem core_run {Φ : Fns} (FL : FnL Φ) {ρ : List D} {k : Nat} {l : List Nat} (hk : k = 3 ∨ k = 4 ∨ k = 6) (hl : l.length = 12) (hs : ∀ c ∈ l, Sg c) (h5 : ρ[5]? = some (.list ((pieces k l).map strS))) (h7 : ρ[7]? = some (.list ((((List.range k).map fun j => col k j l).map sunk).map strS))) :
    ev Φ (X.f1 F1.decode (X.m1 M1.join (X.c (Sc.str [61, 10])) (X.comp true [7] (X.f1 F1.range (X.f1 F1.len (X.v 5))) none (X.m1 M1.join (X.c (Sc.str [])) (X.comp false [0] (X.v 1) none (X.idx (X.v 0) (X.v 1))))))) ρ = some (strD (coreOf k l)) := by
  have hr := rows_run Φ hk h5 h7
  have hcs := core_signs hk hl hs
  have hkk : 3 ≤ k ∧ k ≤ 6 := by lia
  have hd : 2 ≤ 12 / k ∧ 12 / k ≤ 4 := by rcases hk with rfl | rfl | rfl <;> decide
  have hlen : (coreRows k l).length = 12 / k := by simp [coreRows]
  have hsum : ((coreRows k l).map List.length).sum ≤ 24 := by
    have : ∀ R : List (List Nat), (∀ r ∈ R, r.length ≤ 6) → (R.map List.length).sum ≤ 6 * R.length := by
      intro R
      induction R with
      | nil => intro _; simp
      | cons a R ih =>
        intro h
        have h1 := h a (List.mem_cons_self ..)
        have h2 := ih fun x hx => h x (List.mem_cons_of_mem _ hx)
        simp only [List.map_cons, List.sum_cons, List.length_cons]; lia
    have := this (coreRows k l) fun r hr => by rw [(hcs r hr).1]; lia
    lia
  rw [ev_f1, ev_m1, ev_c, hr]
  simp only [Option.bind_some]
  have hj := join_run (sep := [61, 10]) (m := coreRows k l) (by simp only [List.length_cons, List.length_nil]; lia)
  have hj' : meth1 .join (.sc (.str [61, 10])) (.list ((coreRows k l).map strS)) = _ := hj
  rw [hj', Option.bind_some]
  have := FL.decode (coreRows k l) (by intro e; rw [e] at hlen; simp at hlen; lia) (fun r hr => ⟨by rw [(hcs r hr).1]; lia, by rw [(hcs r hr).1]; lia, fun c hc => ((hcs r hr).2 c hc).tame.1, fun c hc => ((hcs r hr).2 c hc).tame.2⟩) (by rw [List.length_flatten]; lia) (by lia)
  exact this
end Mine

end
section
set_option Elab.async false
set_option linter.all false
set_option maxRecDepth 100000
namespace Mine
/-- the variables of the law, step by step -/
noncomputable def Z (S : D) (N : List Int) (k : Nat) (l : List Nat) (d4 a5 a6 a7 a8 a9 a10 a11 a12 a13 : D) : List D := [S, .list (N.map .int), natD k, strD l, d4, a5, a6, a7, a8, a9, a10, a11, a12, a13]
theorem law_run {Φ : Fns} (FL : FnL Φ) {s : List Int} (hs : s.length ≤ 1000) : runFn Φ lLaw 13 [.list (s.map .int)] = some (.sc (.bool true)) := by
  let s0 : D := .list (s.map .int)
  generalize hN : numsOf s = N
  have hNl : N.length = 12 := by rw [← hN]; exact nums_len s
  generalize hK : kOf N = k
  have hk : k = 3 ∨ k = 4 ∨ k = 6 := hK ▸ kOf_ok N
  have hkk : 3 ≤ k ∧ k ≤ 6 := by lia
  have hsg := text_sg N
  have hl := text_len N
  have hq := quotient (r := textOf N) hk hl
  have hcols := col_total (k := k) (r := textOf N)
  have hE := E_bound (r := textOf N) hk
  obtain ⟨d4, hd4, hloop⟩ := law_signs Φ (S := s0) (d2 := natD k) (rest := [.undef, .undef, .undef, .undef, .undef, .undef, .undef, .undef, .undef]) hNl 12 0 .undef (by lia) rfl
  generalize hT : textOf N = l at *
  have s1 : exec Φ (S.asg 1 (X.slU (X.bin BOp.add (X.slU (X.v 0) (X.c (Sc.int 12))) (X.bin BOp.mul (X.l1 (X.c (Sc.int 0))) (X.c (Sc.int 12)))) (X.c (Sc.int 12)))) [s0, .undef, .undef, .undef, .undef, .undef, .undef, .undef, .undef, .undef, .undef, .undef, .undef, .undef] =
      some (.next, [s0, .list (N.map .int), .undef, .undef, .undef, .undef, .undef, .undef, .undef, .undef, .undef, .undef, .undef, .undef]) := by
    have := nums_run Φ (s := s) (rest := [.undef, .undef, .undef, .undef, .undef, .undef, .undef, .undef, .undef, .undef, .undef, .undef, .undef]) hs
    rw [hN] at this
    exact (x_asg rfl this).trans rfl
  have s2 : exec Φ (S.asg 2 (X.idx (X.tupc [3, 4, 6]) (X.bin BOp.mod (X.f1 F1.sum (X.v 1)) (X.c (Sc.int 3))))) [s0, .list (N.map .int), .undef, .undef, .undef, .undef, .undef, .undef, .undef, .undef, .undef, .undef, .undef, .undef] =
      some (.next, [s0, .list (N.map .int), natD k, .undef, .undef, .undef, .undef, .undef, .undef, .undef, .undef, .undef, .undef, .undef]) := by
    have := k_run Φ (S := s0) (N := N) (rest := [.undef, .undef, .undef, .undef, .undef, .undef, .undef, .undef, .undef, .undef, .undef, .undef]) hNl
    rw [hK] at this
    exact (x_asg rfl this).trans rfl
  have s3 : exec Φ (S.asg 3 (X.c (Sc.str []))) [s0, .list (N.map .int), natD k, .undef, .undef, .undef, .undef, .undef, .undef, .undef, .undef, .undef, .undef, .undef] =
      some (.next, [s0, .list (N.map .int), natD k, strD [], .undef, .undef, .undef, .undef, .undef, .undef, .undef, .undef, .undef, .undef]) := rfl
  have s4 : exec Φ (S.for_ 4 (X.f1 F1.range (X.c (Sc.int 12))) lLawB1) [s0, .list (N.map .int), natD k, strD [], .undef, .undef, .undef, .undef, .undef, .undef, .undef, .undef, .undef, .undef] =
      some (.next, Z s0 N k l d4 .undef .undef .undef .undef .undef .undef .undef .undef .undef) := by
    refine (x_for (x := .rng 0 (12 : Nat) 1) ?_ (items1 (n := 12) (by lia)) (by simp)).trans hloop
    exact range1 Φ (n := 12) (by lia)
  have s5 : exec Φ (S.asg 5 (X.m0 M0.splitNL (X.f2 F2.encode (X.v 3) (X.bin BOp.add (X.v 2) (X.c (Sc.int 1)))))) (Z s0 N k l d4 .undef .undef .undef .undef .undef .undef .undef .undef .undef) =
      some (.next, Z s0 N k l d4 (.list ((pieces k l).map strS)) .undef .undef .undef .undef .undef .undef .undef .undef) :=
    (x_asg rfl (lines_run FL hk hl hsg rfl rfl)).trans rfl
  have hpp := strs_plain (L := pieces k l) fun p hp => (piece_plain (k := k) hsg p hp).2
  have s6 : exec Φ (S.ifs (X.cmp COp.ne (X.v 5) (X.comp false [2, 3] (X.f3 F3.range (X.c (Sc.int 0)) (X.c (Sc.int 12)) (X.v 2)) none (X.bin BOp.add (X.slB (X.v 2) (X.v 0) (X.bin BOp.add (X.v 0) (X.v 1))) (X.ite (X.cmp COp.lt (X.bin BOp.add (X.v 0) (X.v 1)) (X.c (Sc.int 12))) (X.c (Sc.str [61])) (X.c (Sc.str [])))))) (S.seq (S.ret (X.c (Sc.bool false))) S.skip) S.skip)
      (Z s0 N k l d4 (.list ((pieces k l).map strS)) .undef .undef .undef .undef .undef .undef .undef .undef) = some (.next, Z s0 N k l d4 (.list ((pieces k l).map strS)) .undef .undef .undef .undef .undef .undef .undef .undef) := by
    refine (x_false (x := .sc (.bool false)) ?_ rfl).trans rfl
    have v5 : ev Φ (X.v 5) (Z s0 N k l d4 (.list ((pieces k l).map strS)) .undef .undef .undef .undef .undef .undef .undef .undef) = some (.list ((pieces k l).map strS)) := rfl
    rw [ev_cmp, v5, awaited_run Φ (k := k) (l := l) hk hl rfl rfl]
    simp only [Option.bind_some, cmpop, cmpSc, asSc, scInt, scStr, D.list?, cmpI, cmpS, cmpL, oneN, hpp, Bool.and_self, if_true, decide_true, Bool.not_true, Option.map_some]
  have s7 : exec Φ (S.asg 6 (X.comp true [5] (X.f1 F1.range (X.v 2)) none (X.m1 M1.join (X.c (Sc.str [])) (X.comp false [0] (X.v 1) none (X.idx (X.v 0) (X.v 1)))))) (Z s0 N k l d4 (.list ((pieces k l).map strS)) .undef .undef .undef .undef .undef .undef .undef .undef) =
      some (.next, Z s0 N k l d4 (.list ((pieces k l).map strS)) (.list (((List.range k).map fun j => col k j l).map strS)) .undef .undef .undef .undef .undef .undef .undef) :=
    (x_asg rfl (columns_run Φ hk hl rfl rfl)).trans rfl
  have s8 : exec Φ (S.asg 7 (X.comp false [] (X.v 6) none (X.bin BOp.add (X.m0 M0.replDot (X.v 0)) (X.bin BOp.mul (X.c (Sc.str [46])) (X.m0 M0.countDot (X.v 0)))))) (Z s0 N k l d4 (.list ((pieces k l).map strS)) (.list (((List.range k).map fun j => col k j l).map strS)) .undef .undef .undef .undef .undef .undef .undef) =
      some (.next, Z s0 N k l d4 (.list ((pieces k l).map strS)) (.list (((List.range k).map fun j => col k j l).map strS)) (.list ((((List.range k).map fun j => col k j l).map sunk).map strS)) .undef .undef .undef .undef .undef .undef) := by
    have hd : 12 / k ≤ 4 := by rcases hk with rfl | rfl | rfl <;> decide
    refine (x_asg rfl (sunk_run Φ (C := (List.range k).map fun j => col k j l) rfl (by simp; lia) fun c hc => ?_)).trans rfl
    obtain ⟨j, _, rfl⟩ := List.mem_map.mp hc
    rw [col_len]; lia
  have s9 : exec Φ (S.asg 8 (X.f1 F1.decode (X.m1 M1.join (X.c (Sc.str [61, 10])) (X.comp true [7] (X.f1 F1.range (X.f1 F1.len (X.v 5))) none (X.m1 M1.join (X.c (Sc.str [])) (X.comp false [0] (X.v 1) none (X.idx (X.v 0) (X.v 1)))))))) (Z s0 N k l d4 (.list ((pieces k l).map strS)) (.list (((List.range k).map fun j => col k j l).map strS)) (.list ((((List.range k).map fun j => col k j l).map sunk).map strS)) .undef .undef .undef .undef .undef .undef) =
      some (.next, Z s0 N k l d4 (.list ((pieces k l).map strS)) (.list (((List.range k).map fun j => col k j l).map strS)) (.list ((((List.range k).map fun j => col k j l).map sunk).map strS)) (strD (coreOf k l)) .undef .undef .undef .undef .undef) :=
    (x_asg rfl (core_run FL hk hl hsg rfl rfl)).trans rfl
  generalize hA5 : D.list ((pieces k l).map strS) = A5 at *
  have hcl : (coreOf k l).length = 12 := core_len hk
  have hcs : ∀ c ∈ coreOf k l, Sg c := fun c hc => by
    obtain ⟨row, h1, h2⟩ := List.mem_flatten.mp hc
    exact (core_signs hk hl hsg row h1).2 c h2
  have s10 : exec Φ (S.asg 9 (X.f1 F1.sorted (X.comp2 [] (X.v 6) (X.f1 F1.hooks (X.v 0)) none (X.v 1)))) (Z s0 N k l d4 A5 (.list (((List.range k).map fun j => col k j l).map strS)) (.list ((((List.range k).map fun j => col k j l).map sunk).map strS)) (strD (coreOf k l)) .undef .undef .undef .undef .undef) =
      some (.next, Z s0 N k l d4 A5 (.list (((List.range k).map fun j => col k j l).map strS)) (.list ((((List.range k).map fun j => col k j l).map sunk).map strS)) (strD (coreOf k l)) (.list (sortS (colHooks k l))) .undef .undef .undef .undef) := by
    refine (x_asg rfl ?_).trans rfl
    rw [ev_f1, sizes_run FL hk hl hsg rfl]
    exact sorted_run Φ (by lia)
  generalize hA6 : D.list (((List.range k).map fun j => col k j l).map strS) = A6 at *
  generalize hA7 : D.list ((((List.range k).map fun j => col k j l).map sunk).map strS) = A7 at *
  have hrow : (rowHooks k l).length = (colHooks k l).length := hq.length_eq.symm
  have hsort : sortS (rowHooks k l) = sortS (colHooks k l) := by unfold sortS; rw [sort_eq hq]
  have s11 : exec Φ (S.ifs (X.cmp COp.ne (X.v 9) (X.f1 F1.sorted (X.comp false [2] (X.f1 F1.hooks (X.v 3)) (some (X.cmp COp.eq (X.bin BOp.mod (X.v 0) (X.v 1)) (X.c (Sc.int 0)))) (X.bin BOp.fdiv (X.v 0) (X.v 1))))) (S.seq (S.ret (X.c (Sc.bool false))) S.skip) S.skip)
      (Z s0 N k l d4 A5 A6 A7 (strD (coreOf k l)) (.list (sortS (colHooks k l))) .undef .undef .undef .undef) = some (.next, Z s0 N k l d4 A5 A6 A7 (strD (coreOf k l)) (.list (sortS (colHooks k l))) .undef .undef .undef .undef) := by
    refine (x_false (x := .sc (.bool false)) ?_ rfl).trans rfl
    have v9 : ev Φ (X.v 9) (Z s0 N k l d4 A5 A6 A7 (strD (coreOf k l)) (.list (sortS (colHooks k l))) .undef .undef .undef .undef) = some (.list (sortS (colHooks k l))) := rfl
    have hq2 : ev Φ (X.f1 F1.sorted (X.comp false [2] (X.f1 F1.hooks (X.v 3)) (some (X.cmp COp.eq (X.bin BOp.mod (X.v 0) (X.v 1)) (X.c (Sc.int 0)))) (X.bin BOp.fdiv (X.v 0) (X.v 1)))) (Z s0 N k l d4 A5 A6 A7 (strD (coreOf k l)) (.list (sortS (colHooks k l))) .undef .undef .undef .undef) = some (.list (sortS (colHooks k l))) := by
      rw [ev_f1, quot_run FL (k := k) (l := l) (by lia) (by lia) hl hsg rfl rfl, Option.bind_some, sorted_run Φ (by lia), hsort]
    rw [ev_cmp, v9, hq2]
    simp only [Option.bind_some, cmpop, cmpSc, asSc, scInt, scStr, D.list?, cmpI, cmpS, cmpL, oneN, sortS_plain, Bool.and_self, if_true, decide_true, Bool.not_true, Option.map_some]
  have s12 : exec Φ (S.ifs (X.cmp COp.ne (X.comp false [2] (X.f1 F1.hooks (X.v 8)) (some (X.cmp COp.eq (X.bin BOp.mod (X.v 0) (X.v 1)) (X.c (Sc.int 0)))) (X.v 0)) X.l0) (S.seq (S.ret (X.c (Sc.bool false))) S.skip) S.skip)
      (Z s0 N k l d4 A5 A6 A7 (strD (coreOf k l)) (.list (sortS (colHooks k l))) .undef .undef .undef .undef) = some (.next, Z s0 N k l d4 A5 A6 A7 (strD (coreOf k l)) (.list (sortS (colHooks k l))) .undef .undef .undef .undef) := by
    refine (x_false (x := .sc (.bool false)) ?_ rfl).trans rfl
    rw [ev_cmp, none_run FL (k := k) (l := coreOf k l) (by lia) hcl hcs rfl rfl, core_hooks hk]
    rfl
  have s13 : exec Φ (S.asg 10 (X.m0 M0.replDot (X.v 8))) (Z s0 N k l d4 A5 A6 A7 (strD (coreOf k l)) (.list (sortS (colHooks k l))) .undef .undef .undef .undef) =
      some (.next, Z s0 N k l d4 A5 A6 A7 (strD (coreOf k l)) (.list (sortS (colHooks k l))) (strD (lets (coreOf k l))) .undef .undef .undef) := by
    refine (x_asg (d := strD (lets (coreOf k l))) rfl ?_).trans rfl
    show meth0 .replDot (strD (coreOf k l)) = _
    simp only [meth0, D.str?, D.bytes?, asSc, scStr, scBytes, Option.bind_some, strD, sizeOk_of (show (coreOf k l).length ≤ 100000 by lia), if_true]; rfl
  have hll : (lets (coreOf k l)).length ≤ 12 := by have := List.length_filter_le (· != 46) (coreOf k l); unfold lets; lia
  have s14 : exec Φ (S.asg 11 (X.bin BOp.mod (X.f1 F1.len (X.comp2 [10] (X.f1 F1.range (X.f1 F1.len (X.v 10))) (X.f1 F1.range (X.v 0)) (some (X.cmp COp.gt (X.idx (X.v 2) (X.v 1)) (X.idx (X.v 2) (X.v 0)))) (X.v 1))) (X.c (Sc.int 2)))) (Z s0 N k l d4 A5 A6 A7 (strD (coreOf k l)) (.list (sortS (colHooks k l))) (strD (lets (coreOf k l))) .undef .undef .undef) =
      some (.next, Z s0 N k l d4 A5 A6 A7 (strD (coreOf k l)) (.list (sortS (colHooks k l))) (strD (lets (coreOf k l))) (natD (inv (coreOf k l) % 2)) .undef .undef) := by
    refine (x_asg (d := natD (inv (coreOf k l) % 2)) rfl ?_).trans rfl
    rw [ev_bin, ev_f1, odd_run Φ hll rfl, ev_c]
    have hsm := invL_small _ hll
    rw [Option.bind_some, len_run Φ (by lia), invL_len]
    show binop .mod (natD (inv (coreOf k l))) (.sc (.int 2)) = _
    simp only [binop, binSc, binStr, binList, asSc, scInt, scBytes, binI, binS, binB, binLL, mulS, mulL, oneS, oneN, isAdd, isMul, Bool.true_and, natD, Option.bind_some]
    rw [if_neg (by decide), Int.fmod_eq_emod_of_nonneg _ (by decide)]
    rfl
  have s15 : exec Φ (S.asg 12 (X.l3 (X.v 8) (X.f1 F1.len (X.v 9)) (X.v 11))) (Z s0 N k l d4 A5 A6 A7 (strD (coreOf k l)) (.list (sortS (colHooks k l))) (strD (lets (coreOf k l))) (natD (inv (coreOf k l) % 2)) .undef .undef) =
      some (.next, Z s0 N k l d4 A5 A6 A7 (strD (coreOf k l)) (.list (sortS (colHooks k l))) (strD (lets (coreOf k l))) (natD (inv (coreOf k l) % 2)) (.list [strS (coreOf k l), natS (E k l), natS (inv (coreOf k l) % 2)]) .undef) := by
    refine (x_asg (d := .list [strS (coreOf k l), natS (E k l), natS (inv (coreOf k l) % 2)]) rfl ?_).trans rfl
    have v9 : ev Φ (X.v 9) (Z s0 N k l d4 A5 A6 A7 (strD (coreOf k l)) (.list (sortS (colHooks k l))) (strD (lets (coreOf k l))) (natD (inv (coreOf k l) % 2)) .undef .undef) = some (.list (sortS (colHooks k l))) := rfl
    have hlen : fn1 Φ .len (.list (sortS (colHooks k l))) = some (natD (E k l)) := by
      simp only [fn1, lenOf, lenS, D.list?, D.int?, D.fba?, asSc, scInt, Option.bind_some, sortS_len, hcols, sizeOk_of (show E k l ≤ 100000 by lia), if_true]; rfl
    rw [ev_l3, ev_f1, v9, Option.bind_some, hlen]
    rfl
  have s16 : exec Φ (S.asg 13 (X.m0 M0.encode (X.v 3))) (Z s0 N k l d4 A5 A6 A7 (strD (coreOf k l)) (.list (sortS (colHooks k l))) (strD (lets (coreOf k l))) (natD (inv (coreOf k l) % 2)) (.list [strS (coreOf k l), natS (E k l), natS (inv (coreOf k l) % 2)]) .undef) =
      some (.next, Z s0 N k l d4 A5 A6 A7 (strD (coreOf k l)) (.list (sortS (colHooks k l))) (strD (lets (coreOf k l))) (natD (inv (coreOf k l) % 2)) (.list [strS (coreOf k l), natS (E k l), natS (inv (coreOf k l) % 2)]) (bD l)) := by
    refine (x_asg (d := bD l) rfl ?_).trans rfl
    show meth0 .encode (strD l) = _
    have hall : l.all tame = true := List.all_eq_true.mpr fun c hc => (hsg c hc).tame.1
    simp only [meth0, D.str?, D.bytes?, asSc, scStr, scBytes, Option.bind_some, strD, sizeOk_of (show l.length ≤ 100000 by lia), hall, Bool.and_self, if_true]; rfl
  let ρ := Z s0 N k l d4 A5 A6 A7 (strD (coreOf k l)) (.list (sortS (colHooks k l))) (strD (lets (coreOf k l))) (natD (inv (coreOf k l) % 2)) (.list [strS (coreOf k l), natS (E k l), natS (inv (coreOf k l) % 2)]) (bD l)
  have hnd : (lets l).Nodup := hT ▸ text_nodup N
  have hinv : inv l = 0 := hT ▸ text_inv N
  have hdue : ([strS (coreOf k l), natS (E k l), natS (inv (coreOf k l) % 2)] : List Sc).all plainIS = true := by
    have : (coreOf k l).all (· < 128) = true := List.all_eq_true.mpr fun c hc => by simpa using (hcs c hc).lt
    simp only [List.all_cons, List.all_nil, plainIS, strS, natS, this, Bool.and_self]
  have v13 : ev Φ (X.v 13) ρ = some (bD l) := rfl
  have v2 : ev Φ (X.v 2) ρ = some (natD k) := rfl
  have v12 : ev Φ (X.v 12) ρ = some (.list [strS (coreOf k l), natS (E k l), natS (inv (coreOf k l) % 2)]) := rfl
  have moved : ∀ (e : X) (picks : List Int), picks.length = 13 → ev Φ e ρ = some (.list (picks.map .int)) → ev Φ (X.f3 F3.moved (X.v 13) (X.v 2) e) ρ = some (.list [strS (coreOf k l), natS (E k l), natS (inv (coreOf k l) % 2)]) := by
    intro e picks hp he
    rw [ev_f3, v13, v2, he]
    exact FL.moved l k picks hk hp hl hsg hnd hinv
  have picks1 : ev Φ (X.comp false [1] (X.f1 F1.range (X.c (Sc.int 13))) none (X.bin BOp.add (X.bin BOp.fdiv (X.idx (X.v 1) (X.bin BOp.mod (X.v 0) (X.c (Sc.int 12)))) (X.c (Sc.int 2))) (X.v 0))) ρ = some (.list (((List.range 13).map fun t : Nat => (N.getD (t % 12) 0).fdiv 2 + t).map .int)) := by
    have hr : ev Φ (X.f1 F1.range (X.c (Sc.int 13))) ρ = some (.rng 0 (13 : Nat) 1) := range1 Φ (n := 13) (by lia)
    rw [comp_map (l := List.range' 0 13) (gg := natD) (h := fun t : Nat => Sc.int ((N.getD (t % 12) 0).fdiv 2 + t)) hr (items1 (n := 13) (by lia)) (by simp)]
    · rw [List.map_map]; rfl
    · intro t ht
      have hσ : (natD t :: [1].map fun i => (ρ[i]?).getD .undef) = [natD t, .list (N.map .int)] := rfl
      rw [hσ]
      have v0 : ev Φ (X.v 0) [natD t, .list (N.map .int)] = some (natD t) := rfl
      have v1 : ev Φ (X.v 1) [natD t, .list (N.map .int)] = some (.list (N.map .int)) := rfl
      have hm : binop .mod (natD t) (.sc (.int 12)) = some (natD (t % 12)) := by
        simp only [binop, binSc, binStr, binList, asSc, scInt, scBytes, binI, binS, binB, binLL, mulS, mulL, oneS, oneN, isAdd, isMul, Bool.true_and, natD, Option.bind_some]
        rw [if_neg (by decide), Int.fmod_eq_emod_of_nonneg _ (by decide)]
        rfl
      have hi : index (.list (N.map .int)) (natD (t % 12)) = some (.sc (.int (N.getD (t % 12) 0))) := by
        have : t % 12 < N.length := by rw [hNl]; exact Nat.mod_lt _ (by decide)
        simp only [index, D.int?, asSc, scInt, Option.bind_some, idx, idxL, idxS, natD]
        rw [if_pos ⟨Int.natCast_nonneg _, small_nat (by lia)⟩, Int.toNat_natCast]
        rw [List.getElem?_map, List.getElem?_eq_getElem this, List.getD_eq_getElem?_getD, List.getElem?_eq_getElem this]
        rfl
      rw [ev_bin, ev_bin, ev_idx, ev_bin, v0, v1, ev_c, ev_c]
      simp only [Option.bind_some, hm, hi]
      rfl
  have picks2 : ev Φ (X.bin BOp.mul (X.l1 (X.neg (X.c (Sc.int 1)))) (X.c (Sc.int 13))) ρ = some (.list ((List.replicate 13 (-1 : Int)).map .int)) := rfl
  have s17 : exec Φ (S.ifs (X.cmp COp.ne (X.f3 F3.moved (X.v 13) (X.v 2) (X.comp false [1] (X.f1 F1.range (X.c (Sc.int 13))) none (X.bin BOp.add (X.bin BOp.fdiv (X.idx (X.v 1) (X.bin BOp.mod (X.v 0) (X.c (Sc.int 12)))) (X.c (Sc.int 2))) (X.v 0)))) (X.v 12)) (S.seq (S.ret (X.c (Sc.bool false))) S.skip) S.skip) ρ = some (.next, ρ) := by
    refine (x_false (x := .sc (.bool false)) ?_ rfl).trans rfl
    rw [ev_cmp, moved _ _ (by simp) picks1, v12]
    simp only [Option.bind_some, cmpop, cmpSc, asSc, scInt, scStr, D.list?, cmpI, cmpS, cmpL, oneN, hdue, Bool.and_self, if_true, decide_true, Bool.not_true, Option.map_some]
  have s18 : ev Φ (X.cmp COp.eq (X.f3 F3.moved (X.v 13) (X.v 2) (X.bin BOp.mul (X.l1 (X.neg (X.c (Sc.int 1)))) (X.c (Sc.int 13)))) (X.v 12)) ρ = some (.sc (.bool true)) := by
    rw [ev_cmp, moved _ _ (by simp) picks2, v12]
    simp only [Option.bind_some, cmpop, cmpSc, asSc, scInt, scStr, D.list?, cmpI, cmpS, cmpL, oneN, hdue, Bool.and_self, if_true, decide_true, Option.map_some]
  have hclean : clean ρ = true := by
    have fz : ∀ {d : D}, ownish d = false → (!ownish d) = true := fun h => by rw [h]; rfl
    show ([s0, D.list (N.map .int), natD k, strD l, d4, A5, A6, A7, strD (coreOf k l), .list (sortS (colHooks k l)), strD (lets (coreOf k l)), natD (inv (coreOf k l) % 2), .list [strS (coreOf k l), natS (E k l), natS (inv (coreOf k l) % 2)], bD l] : List D).all (fun d => !ownish d) = true
    have e5 : ownish A5 = false := by rw [← hA5]; rfl
    have e6 : ownish A6 = false := by rw [← hA6]; rfl
    have e7 : ownish A7 = false := by rw [← hA7]; rfl
    simp only [List.all_cons, List.all_nil, fz hd4, fz e5, fz e6, fz e7]
    rfl
  have hfz : ρ.map freeze = ρ := by
    have : ∀ l : List D, clean l = true → l.map freeze = l := fun l => by
      induction l with
      | nil => intro _; rfl
      | cons d l ih =>
        intro h
        unfold clean at h
        simp only [List.all_cons, Bool.and_eq_true] at h
        rw [List.map_cons, ih h.2]
        congr 1
        cases d <;> first | rfl | (cases h.1; done)
    exact this ρ hclean
  refine run_ret (d := .sc (.bool true)) (ρ1 := ρ) ?_ rfl
  show exec Φ lLaw [s0, .undef, .undef, .undef, .undef, .undef, .undef, .undef, .undef, .undef, .undef, .undef, .undef, .undef] = _
  unfold lLaw
  rw [x_seq s1, x_seq s2, x_seq s3, x_seq s4, x_seq s5, x_seq s6, x_seq s7, x_seq s8, x_seq s9, x_seq s10, x_seq s11, x_seq s12, x_seq s13, x_seq s14, x_seq s15, x_seq s16]
  refine (x_seq s17).trans ?_
  exact x_stop (x_ret (by rw [hfz]; exact s18) (by rw [hclean]; rfl)) (fun e => nomatch e)
end Mine

end
section
open PySem PySem.W PyProof.Rows
set_option Elab.async false
set_option maxRecDepth 100000
namespace Mine
noncomputable def Φ0 : Fns := ⟨fun _ => none, fun _ => none, fun _ => none, fun _ _ => none, fun _ _ => none, fun _ _ _ => none⟩
noncomputable def Φ1 : Fns := ⟨fun a => runFn Φ0 lParts 3 [a], fun _ => none, fun a => runFn Φ0 lDec 5 [a, strD [10]], fun a b => runFn Φ0 lEnc 10 [a, b, strD [10]], fun a b => runFn Φ0 lSwap 3 [a, b], fun _ _ _ => none⟩
noncomputable def Φ2 : Fns := ⟨Φ1.parts, fun a => runFn Φ1 lHooks 6 [a], Φ1.decode, Φ1.encode, Φ1.swap, fun a b c => runFn Φ1 lMoved 8 [a, b, c]⟩
/-! the program's bodies are the literals -/
theorem lit_parts : trSs 40 ⟨namesAt 24, gsAt 24, some "parts", none⟩ (bodyAt 24) = lParts := by kernel_rfl
theorem lit_hooks : trSs 40 ⟨namesAt 25, gsAt 25, some "hooks", none⟩ (bodyAt 25) = lHooks := by kernel_rfl
theorem lit_swap : trSs 40 ⟨namesAt 22, gsAt 22, some "swapped_data", none⟩ (bodyAt 22) = lSwap := by kernel_rfl
theorem lit_moved : trSs 40 ⟨namesAt 26, gsAt 26, none, none⟩ (bodyAt 26) = lMoved := by kernel_rfl
theorem lit_enc : trSs 40 ⟨namesAt 19, gsAt 19, some "encoded_body", some "append"⟩ (bodyAt 19) = lEnc := by kernel_rfl
theorem lit_dec : trSs 40 ⟨namesAt 20, gsAt 20, none, none⟩ (bodyAt 20) = lDec := by kernel_rfl
theorem lit_law : trSs 40 ⟨namesAt 27, gsAt 27, none, none⟩ (bodyAt 27) = lLaw := by kernel_rfl
theorem fr_parts : frameOk (scopeAt 24) (namesAt 24) = true := by decide +kernel
theorem fr_hooks : frameOk (scopeAt 25) (namesAt 25) = true := by decide +kernel
theorem fr_swap : frameOk (scopeAt 22) (namesAt 22) = true := by decide +kernel
theorem fr_moved : frameOk (scopeAt 26) (namesAt 26) = true := by decide +kernel
theorem fr_enc : frameOk (scopeAt 19) (namesAt 19) = true := by decide +kernel
theorem fr_dec : frameOk (scopeAt 20) (namesAt 20) = true := by decide +kernel
theorem fr_law : frameOk (scopeAt 27) (namesAt 27) = true := by decide +kernel
theorem names_par (i : Nat) : namesAt i = parNames i ++ (namesAt i).drop (parNames i).length := by
  unfold namesAt
  rw [List.drop_left]
theorem run_of {Φ : Fns} {body : S} {n : Nat} {args : List D} {z : D} (h : runFn Φ body n args = some z) : ∃ d ρ', exec Φ body (args ++ List.replicate n .undef) = some (.ret d, ρ') ∧ readable d = some z := by
  unfold runFn at h
  split at h
  · exact ⟨_, _, by assumption, h⟩
  · cases h
theorem ps_read {own : Option Addr} {s s' : Shared} {d z : D} {v : Value} (h : Ps own s d v s') (hr : readable d = some z) : Ps own s z v s' := by
  obtain ⟨h1, h2⟩ := h
  obtain ⟨rfl, _⟩ := hd_read (hd_of h1) hr
  exact ⟨h1, h2⟩
section
variable {prog : Program} {w : World} {g : Ad} {L L' : Nat}
theorem Ct1.mono {a : Addr} {f : D → Option D} (h : Ct1 prog w g L a f) (hl : L ≤ L') : Ct1 prog w g L' a f := fun A s own v x z hA => h A s own v x z (hA.le hl)
theorem Ct2.mono {a : Addr} {f : D → D → Option D} (h : Ct2 prog w g L a f) (hl : L ≤ L') : Ct2 prog w g L' a f := fun A s own v u x y z hA => h A s own v u x y z (hA.le hl)
theorem Ct3.mono {a : Addr} {f : D → D → D → Option D} (h : Ct3 prog w g L a f) (hl : L ≤ L') : Ct3 prog w g L' a f := fun A s own v u t x y c z hA => h A s own v u t x y c z (hA.le hl)
theorem ok0 : FnsOk prog w g Φ0 0 := ⟨fun _ _ _ _ _ _ _ _ _ _ _ h => (nomatch h), fun _ _ _ _ _ _ _ _ _ _ _ h => (nomatch h), fun _ _ _ _ _ _ _ _ _ _ _ h => (nomatch h), fun _ _ _ _ _ _ _ _ _ _ _ _ _ _ h => (nomatch h), fun _ _ _ _ _ _ _ _ _ _ _ _ _ _ h => (nomatch h), fun _ _ _ _ _ _ _ _ _ _ _ _ _ _ _ _ _ h => (nomatch h)⟩
theorem ct_parts : Ct1 prog w g 41 g.parts Φ1.parts := by
  intro A s own v x z hA hG ht ho hx h
  obtain ⟨d, ρ', he, hr⟩ := run_of h
  refine wpX_mono (fn_sound (N := 40) (L := 0) (cf := ⟨namesAt 24, gsAt 24, some "parts", none⟩) (fi := 24) (pn := parNames 24) (k := 3) (all := [v]) (ds := [x]) ok0 hA hG ht ho hG.fns.parts (frameOk_of fr_parts) rfl (names_par 24) (by kernel_rfl) (by kernel_rfl)
    (fun pm cd doc kV => .of_eq (by kernel_rfl)) (.cons hx .nil) (by rw [lit_parts]; exact he)) fun _ _ hp => ps_read hp hr
theorem ct_swap : Ct2 prog w g 41 g.swap Φ1.swap := by
  intro A s own v u x y z hA hG ht ho hx hy h
  obtain ⟨d, ρ', he, hr⟩ := run_of h
  refine wpX_mono (fn_sound (N := 40) (L := 0) (cf := ⟨namesAt 22, gsAt 22, some "swapped_data", none⟩) (fi := 22) (pn := parNames 22) (k := 3) (all := [v, u]) (ds := [x, y]) ok0 hA hG ht ho hG.fns.swap (frameOk_of fr_swap) rfl (names_par 22) (by kernel_rfl) (by kernel_rfl)
    (fun pm cd doc kV => .of_eq (by kernel_rfl)) (.cons hx (.cons hy .nil)) (by rw [lit_swap]; exact he)) fun _ _ hp => ps_read hp hr
theorem ct_decode : Ct1 prog w g 41 g.decode Φ1.decode := by
  intro A s own v x z hA hG ht ho hx h
  obtain ⟨d, ρ', he, hr⟩ := run_of h
  obtain ⟨T, t, fa, o, hT, _, n, hd⟩ := hG.fns.decode
  refine wpX_mono (fn_sound (N := 40) (L := 0) (cf := ⟨namesAt 20, gsAt 20, none, none⟩) (fi := 20) (pn := parNames 20) (k := 5) (all := [v, .str ⟨[10].toArray⟩ t]) (ds := [x, strD [10]]) ok0 hA hG ht ho fa (frameOk_of fr_dec) rfl (names_par 20) (by kernel_rfl) (by kernel_rfl)
    (fun pm cd doc kV => .of_defaults rfl hT hd rfl (by kernel_rfl)) (.cons hx (.cons .mkStr .nil)) (by rw [lit_dec]; exact he)) fun _ _ hp => ps_read hp hr
theorem ct_encode : Ct2 prog w g 41 g.encode Φ1.encode := by
  intro A s own v u x y z hA hG ht ho hx hy h
  obtain ⟨d, ρ', he, hr⟩ := run_of h
  obtain ⟨T, t, t2, fa, o, hT, _, n, hd⟩ := hG.fns.encode
  refine wpX_mono (fn_sound (N := 40) (L := 0) (cf := ⟨namesAt 19, gsAt 19, some "encoded_body", some "append"⟩) (fi := 19) (pn := parNames 19) (k := 10) (all := [v, u, .str ⟨[10].toArray⟩ t2]) (ds := [x, y, strD [10]]) ok0 hA hG ht ho fa (frameOk_of fr_enc) rfl (names_par 19) (by kernel_rfl) (by kernel_rfl)
    (fun pm cd doc kV => .of_defaults rfl hT hd rfl (by kernel_rfl)) (.cons hx (.cons hy (.cons .mkStr .nil))) (by rw [lit_enc]; exact he)) fun _ _ hp => ps_read hp hr
theorem ok1 : FnsOk prog w g Φ1 41 := ⟨ct_parts, fun _ _ _ _ _ _ _ _ _ _ _ h => (nomatch h), ct_decode, ct_encode, ct_swap, fun _ _ _ _ _ _ _ _ _ _ _ _ _ _ _ _ _ h => (nomatch h)⟩
theorem ct_hooks : Ct1 prog w g 82 g.hooks Φ2.hooks := by
  intro A s own v x z hA hG ht ho hx h
  obtain ⟨d, ρ', he, hr⟩ := run_of h
  refine wpX_mono (fn_sound (N := 40) (L := 41) (cf := ⟨namesAt 25, gsAt 25, some "hooks", none⟩) (fi := 25) (pn := parNames 25) (k := 6) (all := [v]) (ds := [x]) ok1 hA hG ht ho hG.fns.hooks (frameOk_of fr_hooks) rfl (names_par 25) (by kernel_rfl) (by kernel_rfl)
    (fun pm cd doc kV => .of_eq (by kernel_rfl)) (.cons hx .nil) (by rw [lit_hooks]; exact he)) fun _ _ hp => ps_read hp hr
theorem ct_moved : Ct3 prog w g 82 g.moved Φ2.moved := by
  intro A s own v u t x y c z hA hG ht ho hx hy hc h
  obtain ⟨d, ρ', he, hr⟩ := run_of h
  refine wpX_mono (fn_sound (N := 40) (L := 41) (cf := ⟨namesAt 26, gsAt 26, none, none⟩) (fi := 26) (pn := parNames 26) (k := 8) (all := [v, u, t]) (ds := [x, y, c]) ok1 hA hG ht ho hG.fns.moved (frameOk_of fr_moved) rfl (names_par 26) (by kernel_rfl) (by kernel_rfl)
    (fun pm cd doc kV => .of_eq (by kernel_rfl)) (.cons hx (.cons hy (.cons hc .nil))) (by rw [lit_moved]; exact he)) fun _ _ hp => ps_read hp hr
theorem ok2 : FnsOk prog w g Φ2 82 := ⟨ct_parts.mono (by lia), ct_hooks, ct_decode.mono (by lia), ct_encode.mono (by lia), ct_swap.mono (by lia), ct_moved⟩
end
theorem r1 : FnR Φ1 := ⟨fun r hl hc => parts_run Φ0 hl (List.all_eq_true.mpr fun c h => by simpa using hc c h), fun r hl h1 => by
  have := swap_run Φ0 (l := u8 r) (by rw [u8_len]; exact hl) (by rw [u8_len]; exact h1)
  rw [u8_len, u8_rev] at this
  exact this⟩
theorem l2K : FnL Φ2 := by
  refine ⟨fun l k hk hl hs => enc_run Φ0 hk hl (fun c hc => (hs c hc).tame.1) fun c hc => (hs c hc).tame.2, fun R h1 h2 h3 h4 => dec_run Φ0 h1 h2 h3 h4, fun r hl hs => ?_, fun r k picks hk hp hr hs hn hi => moved_run r1 hk hp hr hs hn hi⟩
  have hpl := partsR_len r.reverse
  rw [List.length_reverse] at hpl
  refine hooks_run Φ1 (r1.parts r (by lia) fun c hc => (hs c hc).lt) (by lia) ?_
  rw [hkOf_len]
  have h1 := sum_le_mul (partsR r.reverse) 12 (fun x hx => by
    have := partsR_bound r.reverse x hx
    have h2 := partsR_count r.reverse
    rw [List.length_reverse] at h2; lia)
  have : (partsR r.reverse).length * 12 ≤ 12 * 12 := Nat.mul_le_mul_right 12 (by lia)
  lia
/-- the law, called -/
theorem law_sound {prog : Program} {w : World} {g : Ad} {A : Around} {s : Shared} {own : Option Addr} {a : Addr} {v : Value} {xs : List Int} (hA : AOk A 123) (hG : GlobOk g s.heap) (ht : 1 ≤ s.toks) (ho : Own own s.heap) (fa : FnAt s.heap a "law" 27 .none)
    (hx : Rp own s.heap v (.list (xs.map .int))) (hz : xs.length ≤ 1000) : wpX (model prog w) A (call (.ref a) [v]) (fun v' s' => v' = .bool true ∧ Keeps s s') s := by
  have h := law_run l2K hz
  obtain ⟨d, ρ', he, hr⟩ := run_of h
  refine wpX_mono (fn_sound (N := 40) (L := 82) (cf := ⟨namesAt 27, gsAt 27, none, none⟩) (fi := 27) (pn := parNames 27) (k := 13) (all := [v]) (ds := [.list (xs.map .int)]) ok2 hA hG ht ho fa (frameOk_of fr_law) rfl (names_par 27) (by kernel_rfl) (by kernel_rfl)
    (fun pm cd doc kV => .of_eq (by kernel_rfl)) (.cons hx .nil) (by rw [lit_law]; exact he)) fun v' s' hp => ?_
  obtain ⟨h1, h2⟩ := ps_read hp hr
  exact ⟨h1.bool, h2⟩
end Mine

end
section
open PySem PySem.W PySem.Calls PyProof.Rows
set_option Elab.async false
set_option maxRecDepth 100000
namespace Mine
/-! the head: the states of the machine between groups of the top's statements -/
noncomputable section
abbrev pw : Program := PySem.Challenge.pw_qu0029_01
structure Cq where
  pr : Program
  z : Params → Obj
structure Cx where
  pr : Program
  t0 : Params → BT
  t1 : Params → BT
  t2 : Params → BT
  t3 : Params → BT
  t4 : Params → BT
  hb : Params → Heap
  h0 : Params → Heap
  h4 : Params → Heap
  tn : Nat → Params → BT
noncomputable def qc : Cq := ⟨pw, boot_o_0⟩
noncomputable def dA (p : Cq) (i : Nat) : Arguments × List Stmt × Scope := match p.pr.main.body[i]? with | some (.FunctionDef _ a b _ _ _ sc _ _ _) => (a, b, sc) | _ => (⟨[], [], none, [], [], none, []⟩, [], ⟨.function, [], false, false, []⟩)
noncomputable def lf : Life := (@PySem.Life.mk [] [] [] 0 [] [] Bool.false #[] [] 0 Bool.false Bool.false Bool.false 0 [2000, 10, 10] Bool.false 0 Bool.true [] [] 0 Bool.false)
noncomputable def qpos : Pos := (@PySem.Pos.mk 0 0 0 0)
noncomputable def psB : Pos := (@PySem.Pos.mk 0 0 0 0)
noncomputable def cdv : Value := (.ref 13)
noncomputable def annV : Option Value := (some (.ref 6))
noncomputable def o0_11 (p : Cq) (P : Params) : Obj := (@PySem.Obj.mk (@PySem.Value.type "tuple") none (@PySem.Data.seq #[] 0) #[])
noncomputable def o0_12 (p : Cq) (P : Params) : Obj := (@PySem.Obj.mk PySem.Value.none none (@PySem.Data.fields #[]) #[])
noncomputable def o0_13 (p : Cq) (P : Params) : Obj := (@PySem.Obj.mk (@PySem.Value.type "code") none (@PySem.Data.fields #[(.str ⟨⟨[60, 109, 111, 100, 117, 108, 101, 62]⟩⟩ 182), (.str ⟨⟨[60, 109, 111, 100, 117, 108, 101, 62]⟩⟩ 183), (.str ⟨⟨[47, 99, 108, 97, 105, 109, 47, 99, 117, 116, 46, 112, 121]⟩⟩ 184), (.int 1 0), (.int 0 0), (.int 0 0), (.int 0 0), (.int 0 0), (.ref 11), (@PySem.Value.bool Bool.false), (.int 181 0), (.ref 12), PySem.Value.none, PySem.Value.none, PySem.Value.none, PySem.Value.none, (.int 185 0), (.int 1 0), (.str ⟨⟨[47, 99, 108, 97, 105, 109, 47, 99, 117, 116, 46, 112, 121]⟩⟩ 186)]) #[])
noncomputable def o0_14 (p : Cq) (P : Params) : Obj := (@PySem.Obj.mk (@PySem.Value.type "frame") none PySem.Data.plain #[(some (.ref 13)), (some (.ref 3)), (some (.ref 3)), none, (some (.str ⟨⟨[95, 95, 109, 97, 105, 110, 95, 95]⟩⟩ 164)), none, (some (.ref 0))])
noncomputable def tr0q (p : Cq) (P : Params) : BT := (.node (p.z P) (.node (PySem.W.boot_o_1 P) (.node (PySem.W.boot_o_3 P) (.node (PySem.W.boot_o_7 P) .nil .nil) (.node (o0_11 p P) .nil .nil)) (.node (PySem.W.boot_o_5 P) (.node (PySem.W.boot_o_9 P) .nil .nil) (.node (o0_13 p P) .nil .nil))) (.node (PySem.W.boot_o_2 P) (.node (PySem.W.boot_o_4 P) (.node (PySem.W.boot_o_8 P) .nil .nil) (.node (o0_12 p P) .nil .nil)) (.node (PySem.W.boot_o_6 P) (.node (PySem.W.boot_o_10 P) .nil .nil) (.node (o0_14 p P) .nil .nil))))
noncomputable def hp0q (p : Cq) (P : Params) : Heap := ⟨⟨[p.z P, PySem.W.boot_o_1 P, PySem.W.boot_o_2 P, PySem.W.boot_o_3 P, PySem.W.boot_o_4 P, PySem.W.boot_o_5 P, PySem.W.boot_o_6 P, PySem.W.boot_o_7 P, PySem.W.boot_o_8 P, PySem.W.boot_o_9 P, PySem.W.boot_o_10 P, o0_11 p P, o0_12 p P, o0_13 p P, o0_14 p P]⟩, lf⟩
noncomputable def st0 (p : Cx) (w : World) (os : OsState) : SharedT := ⟨p.t0 w.params, 15, lf, #[], boot_drawn, 187, os⟩
noncomputable def ps0 : Pos := (@PySem.Pos.mk 0 0 0 0)
noncomputable def o1_3 (p : Cq) (P : Params) : Obj := (@PySem.Obj.mk (@PySem.Value.type "dict") none (@PySem.Data.dict #[⟨(@PySem.PyData.keyHash P ⟨⟨[95, 95, 110, 97, 109, 101, 95, 95]⟩⟩), (.str ⟨⟨[95, 95, 110, 97, 109, 101, 95, 95]⟩⟩ 165), (.str ⟨⟨[95, 95, 109, 97, 105, 110, 95, 95]⟩⟩ 164)⟩, ⟨(@PySem.PyData.keyHash P ⟨⟨[95, 95, 100, 111, 99, 95, 95]⟩⟩), (.str ⟨⟨[95, 95, 100, 111, 99, 95, 95]⟩⟩ 166), PySem.Value.none⟩, ⟨(@PySem.PyData.keyHash P ⟨⟨[95, 95, 112, 97, 99, 107, 97, 103, 101, 95, 95]⟩⟩), (.str ⟨⟨[95, 95, 112, 97, 99, 107, 97, 103, 101, 95, 95]⟩⟩ 167), PySem.Value.none⟩, ⟨(@PySem.PyData.keyHash P ⟨⟨[95, 95, 108, 111, 97, 100, 101, 114, 95, 95]⟩⟩), (.str ⟨⟨[95, 95, 108, 111, 97, 100, 101, 114, 95, 95]⟩⟩ 168), (@PySem.Value.builtin "__main__.__loader__#opaque")⟩, ⟨(@PySem.PyData.keyHash P ⟨⟨[95, 95, 115, 112, 101, 99, 95, 95]⟩⟩), (.str ⟨⟨[95, 95, 115, 112, 101, 99, 95, 95]⟩⟩ 169), PySem.Value.none⟩, ⟨(@PySem.PyData.keyHash P ⟨⟨[95, 95, 97, 110, 110, 111, 116, 97, 116, 105, 111, 110, 115, 95, 95]⟩⟩), (.str ⟨⟨[95, 95, 97, 110, 110, 111, 116, 97, 116, 105, 111, 110, 115, 95, 95]⟩⟩ 170), (.ref 6)⟩, ⟨(@PySem.PyData.keyHash P ⟨⟨[95, 95, 98, 117, 105, 108, 116, 105, 110, 115, 95, 95]⟩⟩), (.str ⟨⟨[95, 95, 98, 117, 105, 108, 116, 105, 110, 115, 95, 95]⟩⟩ 171), (.ref 4)⟩, ⟨(@PySem.PyData.keyHash P ⟨⟨[95, 95, 102, 105, 108, 101, 95, 95]⟩⟩), (.str ⟨⟨[95, 95, 102, 105, 108, 101, 95, 95]⟩⟩ 173), (.str ⟨⟨[47, 99, 108, 97, 105, 109, 47, 99, 117, 116, 46, 112, 121]⟩⟩ 172)⟩, ⟨(@PySem.PyData.keyHash P ⟨⟨[95, 95, 99, 97, 99, 104, 101, 100, 95, 95]⟩⟩), (.str ⟨⟨[95, 95, 99, 97, 99, 104, 101, 100, 95, 95]⟩⟩ 174), PySem.Value.none⟩, ⟨(@PySem.PyData.keyHash P ⟨⟨[67, 82, 76, 70]⟩⟩), (.str ⟨⟨[67, 82, 76, 70]⟩⟩ 188), (.str ⟨⟨[13, 10]⟩⟩ 187)⟩, ⟨(@PySem.PyData.keyHash P ⟨⟨[78, 76]⟩⟩), (.str ⟨⟨[78, 76]⟩⟩ 190), (.str ⟨⟨[10]⟩⟩ 189)⟩, ⟨(@PySem.PyData.keyHash P ⟨⟨[95, 81, 85, 79, 80, 82, 73, 95, 77, 65, 80]⟩⟩), (.str ⟨⟨[95, 81, 85, 79, 80, 82, 73, 95, 77, 65, 80]⟩⟩ 1218), (.ref 17)⟩] 12) #[])
noncomputable def o1_15 (p : Cq) (P : Params) : Obj := (@PySem.Obj.mk (@PySem.Value.type "range") none (@PySem.Data.fields #[(.int 0 192), (.int 256 191), (.int 1 193)]) #[])
noncomputable def o1_16 (p : Cq) (P : Params) : Obj := (@PySem.Obj.mk (@PySem.Value.type "range_iterator") none (@PySem.Data.fields #[(.int 256 0), (.int 0 0), (.int 1 0)]) #[])
noncomputable def o1_17 (p : Cq) (P : Params) : Obj := (@PySem.Obj.mk (@PySem.Value.type "list") none (@PySem.Data.seq #[(.str ⟨⟨[61, 48, 48]⟩⟩ 197), (.str ⟨⟨[61, 48, 49]⟩⟩ 201), (.str ⟨⟨[61, 48, 50]⟩⟩ 205), (.str ⟨⟨[61, 48, 51]⟩⟩ 209), (.str ⟨⟨[61, 48, 52]⟩⟩ 213), (.str ⟨⟨[61, 48, 53]⟩⟩ 217), (.str ⟨⟨[61, 48, 54]⟩⟩ 221), (.str ⟨⟨[61, 48, 55]⟩⟩ 225), (.str ⟨⟨[61, 48, 56]⟩⟩ 229), (.str ⟨⟨[61, 48, 57]⟩⟩ 233), (.str ⟨⟨[61, 48, 65]⟩⟩ 237), (.str ⟨⟨[61, 48, 66]⟩⟩ 241), (.str ⟨⟨[61, 48, 67]⟩⟩ 245), (.str ⟨⟨[61, 48, 68]⟩⟩ 249), (.str ⟨⟨[61, 48, 69]⟩⟩ 253), (.str ⟨⟨[61, 48, 70]⟩⟩ 257), (.str ⟨⟨[61, 49, 48]⟩⟩ 261), (.str ⟨⟨[61, 49, 49]⟩⟩ 265), (.str ⟨⟨[61, 49, 50]⟩⟩ 269), (.str ⟨⟨[61, 49, 51]⟩⟩ 273), (.str ⟨⟨[61, 49, 52]⟩⟩ 277), (.str ⟨⟨[61, 49, 53]⟩⟩ 281), (.str ⟨⟨[61, 49, 54]⟩⟩ 285), (.str ⟨⟨[61, 49, 55]⟩⟩ 289), (.str ⟨⟨[61, 49, 56]⟩⟩ 293), (.str ⟨⟨[61, 49, 57]⟩⟩ 297), (.str ⟨⟨[61, 49, 65]⟩⟩ 301), (.str ⟨⟨[61, 49, 66]⟩⟩ 305), (.str ⟨⟨[61, 49, 67]⟩⟩ 309), (.str ⟨⟨[61, 49, 68]⟩⟩ 313), (.str ⟨⟨[61, 49, 69]⟩⟩ 317), (.str ⟨⟨[61, 49, 70]⟩⟩ 321), (.str ⟨⟨[61, 50, 48]⟩⟩ 325), (.str ⟨⟨[61, 50, 49]⟩⟩ 329), (.str ⟨⟨[61, 50, 50]⟩⟩ 333), (.str ⟨⟨[61, 50, 51]⟩⟩ 337), (.str ⟨⟨[61, 50, 52]⟩⟩ 341), (.str ⟨⟨[61, 50, 53]⟩⟩ 345), (.str ⟨⟨[61, 50, 54]⟩⟩ 349), (.str ⟨⟨[61, 50, 55]⟩⟩ 353), (.str ⟨⟨[61, 50, 56]⟩⟩ 357), (.str ⟨⟨[61, 50, 57]⟩⟩ 361), (.str ⟨⟨[61, 50, 65]⟩⟩ 365), (.str ⟨⟨[61, 50, 66]⟩⟩ 369), (.str ⟨⟨[61, 50, 67]⟩⟩ 373), (.str ⟨⟨[61, 50, 68]⟩⟩ 377), (.str ⟨⟨[61, 50, 69]⟩⟩ 381), (.str ⟨⟨[61, 50, 70]⟩⟩ 385), (.str ⟨⟨[61, 51, 48]⟩⟩ 389), (.str ⟨⟨[61, 51, 49]⟩⟩ 393), (.str ⟨⟨[61, 51, 50]⟩⟩ 397), (.str ⟨⟨[61, 51, 51]⟩⟩ 401), (.str ⟨⟨[61, 51, 52]⟩⟩ 405), (.str ⟨⟨[61, 51, 53]⟩⟩ 409), (.str ⟨⟨[61, 51, 54]⟩⟩ 413), (.str ⟨⟨[61, 51, 55]⟩⟩ 417), (.str ⟨⟨[61, 51, 56]⟩⟩ 421), (.str ⟨⟨[61, 51, 57]⟩⟩ 425), (.str ⟨⟨[61, 51, 65]⟩⟩ 429), (.str ⟨⟨[61, 51, 66]⟩⟩ 433), (.str ⟨⟨[61, 51, 67]⟩⟩ 437), (.str ⟨⟨[61, 51, 68]⟩⟩ 441), (.str ⟨⟨[61, 51, 69]⟩⟩ 445), (.str ⟨⟨[61, 51, 70]⟩⟩ 449), (.str ⟨⟨[61, 52, 48]⟩⟩ 453), (.str ⟨⟨[61, 52, 49]⟩⟩ 457), (.str ⟨⟨[61, 52, 50]⟩⟩ 461), (.str ⟨⟨[61, 52, 51]⟩⟩ 465), (.str ⟨⟨[61, 52, 52]⟩⟩ 469), (.str ⟨⟨[61, 52, 53]⟩⟩ 473), (.str ⟨⟨[61, 52, 54]⟩⟩ 477), (.str ⟨⟨[61, 52, 55]⟩⟩ 481), (.str ⟨⟨[61, 52, 56]⟩⟩ 485), (.str ⟨⟨[61, 52, 57]⟩⟩ 489), (.str ⟨⟨[61, 52, 65]⟩⟩ 493), (.str ⟨⟨[61, 52, 66]⟩⟩ 497), (.str ⟨⟨[61, 52, 67]⟩⟩ 501), (.str ⟨⟨[61, 52, 68]⟩⟩ 505), (.str ⟨⟨[61, 52, 69]⟩⟩ 509), (.str ⟨⟨[61, 52, 70]⟩⟩ 513), (.str ⟨⟨[61, 53, 48]⟩⟩ 517), (.str ⟨⟨[61, 53, 49]⟩⟩ 521), (.str ⟨⟨[61, 53, 50]⟩⟩ 525), (.str ⟨⟨[61, 53, 51]⟩⟩ 529), (.str ⟨⟨[61, 53, 52]⟩⟩ 533), (.str ⟨⟨[61, 53, 53]⟩⟩ 537), (.str ⟨⟨[61, 53, 54]⟩⟩ 541), (.str ⟨⟨[61, 53, 55]⟩⟩ 545), (.str ⟨⟨[61, 53, 56]⟩⟩ 549), (.str ⟨⟨[61, 53, 57]⟩⟩ 553), (.str ⟨⟨[61, 53, 65]⟩⟩ 557), (.str ⟨⟨[61, 53, 66]⟩⟩ 561), (.str ⟨⟨[61, 53, 67]⟩⟩ 565), (.str ⟨⟨[61, 53, 68]⟩⟩ 569), (.str ⟨⟨[61, 53, 69]⟩⟩ 573), (.str ⟨⟨[61, 53, 70]⟩⟩ 577), (.str ⟨⟨[61, 54, 48]⟩⟩ 581), (.str ⟨⟨[61, 54, 49]⟩⟩ 585), (.str ⟨⟨[61, 54, 50]⟩⟩ 589), (.str ⟨⟨[61, 54, 51]⟩⟩ 593), (.str ⟨⟨[61, 54, 52]⟩⟩ 597), (.str ⟨⟨[61, 54, 53]⟩⟩ 601), (.str ⟨⟨[61, 54, 54]⟩⟩ 605), (.str ⟨⟨[61, 54, 55]⟩⟩ 609), (.str ⟨⟨[61, 54, 56]⟩⟩ 613), (.str ⟨⟨[61, 54, 57]⟩⟩ 617), (.str ⟨⟨[61, 54, 65]⟩⟩ 621), (.str ⟨⟨[61, 54, 66]⟩⟩ 625), (.str ⟨⟨[61, 54, 67]⟩⟩ 629), (.str ⟨⟨[61, 54, 68]⟩⟩ 633), (.str ⟨⟨[61, 54, 69]⟩⟩ 637), (.str ⟨⟨[61, 54, 70]⟩⟩ 641), (.str ⟨⟨[61, 55, 48]⟩⟩ 645), (.str ⟨⟨[61, 55, 49]⟩⟩ 649), (.str ⟨⟨[61, 55, 50]⟩⟩ 653), (.str ⟨⟨[61, 55, 51]⟩⟩ 657), (.str ⟨⟨[61, 55, 52]⟩⟩ 661), (.str ⟨⟨[61, 55, 53]⟩⟩ 665), (.str ⟨⟨[61, 55, 54]⟩⟩ 669), (.str ⟨⟨[61, 55, 55]⟩⟩ 673), (.str ⟨⟨[61, 55, 56]⟩⟩ 677), (.str ⟨⟨[61, 55, 57]⟩⟩ 681), (.str ⟨⟨[61, 55, 65]⟩⟩ 685), (.str ⟨⟨[61, 55, 66]⟩⟩ 689), (.str ⟨⟨[61, 55, 67]⟩⟩ 693), (.str ⟨⟨[61, 55, 68]⟩⟩ 697), (.str ⟨⟨[61, 55, 69]⟩⟩ 701), (.str ⟨⟨[61, 55, 70]⟩⟩ 705), (.str ⟨⟨[61, 56, 48]⟩⟩ 709), (.str ⟨⟨[61, 56, 49]⟩⟩ 713), (.str ⟨⟨[61, 56, 50]⟩⟩ 717), (.str ⟨⟨[61, 56, 51]⟩⟩ 721), (.str ⟨⟨[61, 56, 52]⟩⟩ 725), (.str ⟨⟨[61, 56, 53]⟩⟩ 729), (.str ⟨⟨[61, 56, 54]⟩⟩ 733), (.str ⟨⟨[61, 56, 55]⟩⟩ 737), (.str ⟨⟨[61, 56, 56]⟩⟩ 741), (.str ⟨⟨[61, 56, 57]⟩⟩ 745), (.str ⟨⟨[61, 56, 65]⟩⟩ 749), (.str ⟨⟨[61, 56, 66]⟩⟩ 753), (.str ⟨⟨[61, 56, 67]⟩⟩ 757), (.str ⟨⟨[61, 56, 68]⟩⟩ 761), (.str ⟨⟨[61, 56, 69]⟩⟩ 765), (.str ⟨⟨[61, 56, 70]⟩⟩ 769), (.str ⟨⟨[61, 57, 48]⟩⟩ 773), (.str ⟨⟨[61, 57, 49]⟩⟩ 777), (.str ⟨⟨[61, 57, 50]⟩⟩ 781), (.str ⟨⟨[61, 57, 51]⟩⟩ 785), (.str ⟨⟨[61, 57, 52]⟩⟩ 789), (.str ⟨⟨[61, 57, 53]⟩⟩ 793), (.str ⟨⟨[61, 57, 54]⟩⟩ 797), (.str ⟨⟨[61, 57, 55]⟩⟩ 801), (.str ⟨⟨[61, 57, 56]⟩⟩ 805), (.str ⟨⟨[61, 57, 57]⟩⟩ 809), (.str ⟨⟨[61, 57, 65]⟩⟩ 813), (.str ⟨⟨[61, 57, 66]⟩⟩ 817), (.str ⟨⟨[61, 57, 67]⟩⟩ 821), (.str ⟨⟨[61, 57, 68]⟩⟩ 825), (.str ⟨⟨[61, 57, 69]⟩⟩ 829), (.str ⟨⟨[61, 57, 70]⟩⟩ 833), (.str ⟨⟨[61, 65, 48]⟩⟩ 837), (.str ⟨⟨[61, 65, 49]⟩⟩ 841), (.str ⟨⟨[61, 65, 50]⟩⟩ 845), (.str ⟨⟨[61, 65, 51]⟩⟩ 849), (.str ⟨⟨[61, 65, 52]⟩⟩ 853), (.str ⟨⟨[61, 65, 53]⟩⟩ 857), (.str ⟨⟨[61, 65, 54]⟩⟩ 861), (.str ⟨⟨[61, 65, 55]⟩⟩ 865), (.str ⟨⟨[61, 65, 56]⟩⟩ 869), (.str ⟨⟨[61, 65, 57]⟩⟩ 873), (.str ⟨⟨[61, 65, 65]⟩⟩ 877), (.str ⟨⟨[61, 65, 66]⟩⟩ 881), (.str ⟨⟨[61, 65, 67]⟩⟩ 885), (.str ⟨⟨[61, 65, 68]⟩⟩ 889), (.str ⟨⟨[61, 65, 69]⟩⟩ 893), (.str ⟨⟨[61, 65, 70]⟩⟩ 897), (.str ⟨⟨[61, 66, 48]⟩⟩ 901), (.str ⟨⟨[61, 66, 49]⟩⟩ 905), (.str ⟨⟨[61, 66, 50]⟩⟩ 909), (.str ⟨⟨[61, 66, 51]⟩⟩ 913), (.str ⟨⟨[61, 66, 52]⟩⟩ 917), (.str ⟨⟨[61, 66, 53]⟩⟩ 921), (.str ⟨⟨[61, 66, 54]⟩⟩ 925), (.str ⟨⟨[61, 66, 55]⟩⟩ 929), (.str ⟨⟨[61, 66, 56]⟩⟩ 933), (.str ⟨⟨[61, 66, 57]⟩⟩ 937), (.str ⟨⟨[61, 66, 65]⟩⟩ 941), (.str ⟨⟨[61, 66, 66]⟩⟩ 945), (.str ⟨⟨[61, 66, 67]⟩⟩ 949), (.str ⟨⟨[61, 66, 68]⟩⟩ 953), (.str ⟨⟨[61, 66, 69]⟩⟩ 957), (.str ⟨⟨[61, 66, 70]⟩⟩ 961), (.str ⟨⟨[61, 67, 48]⟩⟩ 965), (.str ⟨⟨[61, 67, 49]⟩⟩ 969), (.str ⟨⟨[61, 67, 50]⟩⟩ 973), (.str ⟨⟨[61, 67, 51]⟩⟩ 977), (.str ⟨⟨[61, 67, 52]⟩⟩ 981), (.str ⟨⟨[61, 67, 53]⟩⟩ 985), (.str ⟨⟨[61, 67, 54]⟩⟩ 989), (.str ⟨⟨[61, 67, 55]⟩⟩ 993), (.str ⟨⟨[61, 67, 56]⟩⟩ 997), (.str ⟨⟨[61, 67, 57]⟩⟩ 1001), (.str ⟨⟨[61, 67, 65]⟩⟩ 1005), (.str ⟨⟨[61, 67, 66]⟩⟩ 1009), (.str ⟨⟨[61, 67, 67]⟩⟩ 1013), (.str ⟨⟨[61, 67, 68]⟩⟩ 1017), (.str ⟨⟨[61, 67, 69]⟩⟩ 1021), (.str ⟨⟨[61, 67, 70]⟩⟩ 1025), (.str ⟨⟨[61, 68, 48]⟩⟩ 1029), (.str ⟨⟨[61, 68, 49]⟩⟩ 1033), (.str ⟨⟨[61, 68, 50]⟩⟩ 1037), (.str ⟨⟨[61, 68, 51]⟩⟩ 1041), (.str ⟨⟨[61, 68, 52]⟩⟩ 1045), (.str ⟨⟨[61, 68, 53]⟩⟩ 1049), (.str ⟨⟨[61, 68, 54]⟩⟩ 1053), (.str ⟨⟨[61, 68, 55]⟩⟩ 1057), (.str ⟨⟨[61, 68, 56]⟩⟩ 1061), (.str ⟨⟨[61, 68, 57]⟩⟩ 1065), (.str ⟨⟨[61, 68, 65]⟩⟩ 1069), (.str ⟨⟨[61, 68, 66]⟩⟩ 1073), (.str ⟨⟨[61, 68, 67]⟩⟩ 1077), (.str ⟨⟨[61, 68, 68]⟩⟩ 1081), (.str ⟨⟨[61, 68, 69]⟩⟩ 1085), (.str ⟨⟨[61, 68, 70]⟩⟩ 1089), (.str ⟨⟨[61, 69, 48]⟩⟩ 1093), (.str ⟨⟨[61, 69, 49]⟩⟩ 1097), (.str ⟨⟨[61, 69, 50]⟩⟩ 1101), (.str ⟨⟨[61, 69, 51]⟩⟩ 1105), (.str ⟨⟨[61, 69, 52]⟩⟩ 1109), (.str ⟨⟨[61, 69, 53]⟩⟩ 1113), (.str ⟨⟨[61, 69, 54]⟩⟩ 1117), (.str ⟨⟨[61, 69, 55]⟩⟩ 1121), (.str ⟨⟨[61, 69, 56]⟩⟩ 1125), (.str ⟨⟨[61, 69, 57]⟩⟩ 1129), (.str ⟨⟨[61, 69, 65]⟩⟩ 1133), (.str ⟨⟨[61, 69, 66]⟩⟩ 1137), (.str ⟨⟨[61, 69, 67]⟩⟩ 1141), (.str ⟨⟨[61, 69, 68]⟩⟩ 1145), (.str ⟨⟨[61, 69, 69]⟩⟩ 1149), (.str ⟨⟨[61, 69, 70]⟩⟩ 1153), (.str ⟨⟨[61, 70, 48]⟩⟩ 1157), (.str ⟨⟨[61, 70, 49]⟩⟩ 1161), (.str ⟨⟨[61, 70, 50]⟩⟩ 1165), (.str ⟨⟨[61, 70, 51]⟩⟩ 1169), (.str ⟨⟨[61, 70, 52]⟩⟩ 1173), (.str ⟨⟨[61, 70, 53]⟩⟩ 1177), (.str ⟨⟨[61, 70, 54]⟩⟩ 1181), (.str ⟨⟨[61, 70, 55]⟩⟩ 1185), (.str ⟨⟨[61, 70, 56]⟩⟩ 1189), (.str ⟨⟨[61, 70, 57]⟩⟩ 1193), (.str ⟨⟨[61, 70, 65]⟩⟩ 1197), (.str ⟨⟨[61, 70, 66]⟩⟩ 1201), (.str ⟨⟨[61, 70, 67]⟩⟩ 1205), (.str ⟨⟨[61, 70, 68]⟩⟩ 1209), (.str ⟨⟨[61, 70, 69]⟩⟩ 1213), (.str ⟨⟨[61, 70, 70]⟩⟩ 1217)] 256) #[])
noncomputable def o1_18 (p : Cq) (P : Params) : Obj := (@PySem.Obj.mk (@PySem.Value.type "dict") none (@PySem.Data.dict #[] 2) #[])
noncomputable def o1_19 (p : Cq) (P : Params) : Obj := (@PySem.Obj.mk (@PySem.Value.type "tuple") none (@PySem.Data.seq #[] 0) #[])
noncomputable def o1_20 (p : Cq) (P : Params) : Obj := (@PySem.Obj.mk (@PySem.Value.type "StopIteration") none (@PySem.Data.fields #[(.ref 19), PySem.Value.none, PySem.Value.none, PySem.Value.none, (@PySem.Value.bool Bool.false), PySem.Value.none]) #[])
noncomputable def tr1q (p : Cq) (P : Params) : BT := (.node (p.z P) (.node (PySem.W.boot_o_1 P) (.node (o1_3 p P) (.node (PySem.W.boot_o_7 P) (.node (o1_15 p P) .nil .nil) .nil) (.node (o0_11 p P) (.node (o1_19 p P) .nil .nil) .nil)) (.node (PySem.W.boot_o_5 P) (.node (PySem.W.boot_o_9 P) (.node (o1_17 p P) .nil .nil) .nil) (.node (o0_13 p P) .nil .nil))) (.node (PySem.W.boot_o_2 P) (.node (PySem.W.boot_o_4 P) (.node (PySem.W.boot_o_8 P) (.node (o1_16 p P) .nil .nil) .nil) (.node (o0_12 p P) (.node (o1_20 p P) .nil .nil) .nil)) (.node (PySem.W.boot_o_6 P) (.node (PySem.W.boot_o_10 P) (.node (o1_18 p P) .nil .nil) .nil) (.node (o0_14 p P) .nil .nil))))
noncomputable def st1 (p : Cx) (w : World) (os : OsState) : SharedT := ⟨p.t1 w.params, 21, lf, #[], boot_drawn, 1219, os⟩
noncomputable def ps1 : Pos := (@PySem.Pos.mk 3 0 3 11)
noncomputable def o2_3 (p : Cq) (P : Params) : Obj := (@PySem.Obj.mk (@PySem.Value.type "dict") none (@PySem.Data.dict #[⟨(@PySem.PyData.keyHash P ⟨⟨[95, 95, 110, 97, 109, 101, 95, 95]⟩⟩), (.str ⟨⟨[95, 95, 110, 97, 109, 101, 95, 95]⟩⟩ 165), (.str ⟨⟨[99, 112, 121, 51, 49, 51, 46, 101, 109, 97, 105, 108, 46, 113, 117, 111, 112, 114, 105, 109, 105, 109, 101]⟩⟩ 1234)⟩, ⟨(@PySem.PyData.keyHash P ⟨⟨[95, 95, 100, 111, 99, 95, 95]⟩⟩), (.str ⟨⟨[95, 95, 100, 111, 99, 95, 95]⟩⟩ 166), PySem.Value.none⟩, ⟨(@PySem.PyData.keyHash P ⟨⟨[95, 95, 112, 97, 99, 107, 97, 103, 101, 95, 95]⟩⟩), (.str ⟨⟨[95, 95, 112, 97, 99, 107, 97, 103, 101, 95, 95]⟩⟩ 167), PySem.Value.none⟩, ⟨(@PySem.PyData.keyHash P ⟨⟨[95, 95, 108, 111, 97, 100, 101, 114, 95, 95]⟩⟩), (.str ⟨⟨[95, 95, 108, 111, 97, 100, 101, 114, 95, 95]⟩⟩ 168), (@PySem.Value.builtin "__main__.__loader__#opaque")⟩, ⟨(@PySem.PyData.keyHash P ⟨⟨[95, 95, 115, 112, 101, 99, 95, 95]⟩⟩), (.str ⟨⟨[95, 95, 115, 112, 101, 99, 95, 95]⟩⟩ 169), PySem.Value.none⟩, ⟨(@PySem.PyData.keyHash P ⟨⟨[95, 95, 97, 110, 110, 111, 116, 97, 116, 105, 111, 110, 115, 95, 95]⟩⟩), (.str ⟨⟨[95, 95, 97, 110, 110, 111, 116, 97, 116, 105, 111, 110, 115, 95, 95]⟩⟩ 170), (.ref 6)⟩, ⟨(@PySem.PyData.keyHash P ⟨⟨[95, 95, 98, 117, 105, 108, 116, 105, 110, 115, 95, 95]⟩⟩), (.str ⟨⟨[95, 95, 98, 117, 105, 108, 116, 105, 110, 115, 95, 95]⟩⟩ 171), (.ref 4)⟩, ⟨(@PySem.PyData.keyHash P ⟨⟨[95, 95, 102, 105, 108, 101, 95, 95]⟩⟩), (.str ⟨⟨[95, 95, 102, 105, 108, 101, 95, 95]⟩⟩ 173), (.str ⟨⟨[47, 99, 108, 97, 105, 109, 47, 99, 117, 116, 46, 112, 121]⟩⟩ 172)⟩, ⟨(@PySem.PyData.keyHash P ⟨⟨[95, 95, 99, 97, 99, 104, 101, 100, 95, 95]⟩⟩), (.str ⟨⟨[95, 95, 99, 97, 99, 104, 101, 100, 95, 95]⟩⟩ 174), PySem.Value.none⟩, ⟨(@PySem.PyData.keyHash P ⟨⟨[67, 82, 76, 70]⟩⟩), (.str ⟨⟨[67, 82, 76, 70]⟩⟩ 188), (.str ⟨⟨[13, 10]⟩⟩ 187)⟩, ⟨(@PySem.PyData.keyHash P ⟨⟨[78, 76]⟩⟩), (.str ⟨⟨[78, 76]⟩⟩ 190), (.str ⟨⟨[10]⟩⟩ 189)⟩, ⟨(@PySem.PyData.keyHash P ⟨⟨[95, 81, 85, 79, 80, 82, 73, 95, 77, 65, 80]⟩⟩), (.str ⟨⟨[95, 81, 85, 79, 80, 82, 73, 95, 77, 65, 80]⟩⟩ 1218), (.ref 17)⟩, ⟨(@PySem.PyData.keyHash P ⟨⟨[95, 81, 85, 79, 80, 82, 73, 95, 72, 69, 65, 68, 69, 82, 95, 77, 65, 80]⟩⟩), (.str ⟨⟨[95, 81, 85, 79, 80, 82, 73, 95, 72, 69, 65, 68, 69, 82, 95, 77, 65, 80]⟩⟩ 1219), (.ref 22)⟩, ⟨(@PySem.PyData.keyHash P ⟨⟨[95, 81, 85, 79, 80, 82, 73, 95, 66, 79, 68, 89, 95, 77, 65, 80]⟩⟩), (.str ⟨⟨[95, 81, 85, 79, 80, 82, 73, 95, 66, 79, 68, 89, 95, 77, 65, 80]⟩⟩ 1220), (.ref 24)⟩, ⟨(@PySem.PyData.keyHash P ⟨⟨[97, 115, 99, 105, 105, 95, 108, 111, 119, 101, 114, 99, 97, 115, 101]⟩⟩), (.str ⟨⟨[97, 115, 99, 105, 105, 95, 108, 111, 119, 101, 114, 99, 97, 115, 101]⟩⟩ 1222), (.str ⟨⟨[97, 98, 99, 100, 101, 102, 103, 104, 105, 106, 107, 108, 109, 110, 111, 112, 113, 114, 115, 116, 117, 118, 119, 120, 121, 122]⟩⟩ 1221)⟩, ⟨(@PySem.PyData.keyHash P ⟨⟨[97, 115, 99, 105, 105, 95, 117, 112, 112, 101, 114, 99, 97, 115, 101]⟩⟩), (.str ⟨⟨[97, 115, 99, 105, 105, 95, 117, 112, 112, 101, 114, 99, 97, 115, 101]⟩⟩ 1224), (.str ⟨⟨[65, 66, 67, 68, 69, 70, 71, 72, 73, 74, 75, 76, 77, 78, 79, 80, 81, 82, 83, 84, 85, 86, 87, 88, 89, 90]⟩⟩ 1223)⟩, ⟨(@PySem.PyData.keyHash P ⟨⟨[97, 115, 99, 105, 105, 95, 108, 101, 116, 116, 101, 114, 115]⟩⟩), (.str ⟨⟨[97, 115, 99, 105, 105, 95, 108, 101, 116, 116, 101, 114, 115]⟩⟩ 1226), (.str ⟨⟨[97, 98, 99, 100, 101, 102, 103, 104, 105, 106, 107, 108, 109, 110, 111, 112, 113, 114, 115, 116, 117, 118, 119, 120, 121, 122, 65, 66, 67, 68, 69, 70, 71, 72, 73, 74, 75, 76, 77, 78, 79, 80, 81, 82, 83, 84, 85, 86, 87, 88, 89, 90]⟩⟩ 1225)⟩, ⟨(@PySem.PyData.keyHash P ⟨⟨[100, 105, 103, 105, 116, 115]⟩⟩), (.str ⟨⟨[100, 105, 103, 105, 116, 115]⟩⟩ 1228), (.str ⟨⟨[48, 49, 50, 51, 52, 53, 54, 55, 56, 57]⟩⟩ 1227)⟩, ⟨(@PySem.PyData.keyHash P ⟨⟨[104, 101, 120, 100, 105, 103, 105, 116, 115]⟩⟩), (.str ⟨⟨[104, 101, 120, 100, 105, 103, 105, 116, 115]⟩⟩ 1233), (.str ⟨⟨[48, 49, 50, 51, 52, 53, 54, 55, 56, 57, 97, 98, 99, 100, 101, 102, 65, 66, 67, 68, 69, 70]⟩⟩ 1232)⟩, ⟨(@PySem.PyData.keyHash P ⟨⟨[99]⟩⟩), (.str ⟨⟨[99]⟩⟩ 1244), (.int 57 1441)⟩] 20) #[])
noncomputable def o2_21 (p : Cq) (P : Params) : Obj := (@PySem.Obj.mk (@PySem.Value.type "slice") none (@PySem.Data.fields #[PySem.Value.none, PySem.Value.none, PySem.Value.none]) #[])
noncomputable def o2_22 (p : Cq) (P : Params) : Obj := (@PySem.Obj.mk (@PySem.Value.type "list") none (@PySem.Data.seq #[(.str ⟨⟨[61, 48, 48]⟩⟩ 197), (.str ⟨⟨[61, 48, 49]⟩⟩ 201), (.str ⟨⟨[61, 48, 50]⟩⟩ 205), (.str ⟨⟨[61, 48, 51]⟩⟩ 209), (.str ⟨⟨[61, 48, 52]⟩⟩ 213), (.str ⟨⟨[61, 48, 53]⟩⟩ 217), (.str ⟨⟨[61, 48, 54]⟩⟩ 221), (.str ⟨⟨[61, 48, 55]⟩⟩ 225), (.str ⟨⟨[61, 48, 56]⟩⟩ 229), (.str ⟨⟨[61, 48, 57]⟩⟩ 233), (.str ⟨⟨[61, 48, 65]⟩⟩ 237), (.str ⟨⟨[61, 48, 66]⟩⟩ 241), (.str ⟨⟨[61, 48, 67]⟩⟩ 245), (.str ⟨⟨[61, 48, 68]⟩⟩ 249), (.str ⟨⟨[61, 48, 69]⟩⟩ 253), (.str ⟨⟨[61, 48, 70]⟩⟩ 257), (.str ⟨⟨[61, 49, 48]⟩⟩ 261), (.str ⟨⟨[61, 49, 49]⟩⟩ 265), (.str ⟨⟨[61, 49, 50]⟩⟩ 269), (.str ⟨⟨[61, 49, 51]⟩⟩ 273), (.str ⟨⟨[61, 49, 52]⟩⟩ 277), (.str ⟨⟨[61, 49, 53]⟩⟩ 281), (.str ⟨⟨[61, 49, 54]⟩⟩ 285), (.str ⟨⟨[61, 49, 55]⟩⟩ 289), (.str ⟨⟨[61, 49, 56]⟩⟩ 293), (.str ⟨⟨[61, 49, 57]⟩⟩ 297), (.str ⟨⟨[61, 49, 65]⟩⟩ 301), (.str ⟨⟨[61, 49, 66]⟩⟩ 305), (.str ⟨⟨[61, 49, 67]⟩⟩ 309), (.str ⟨⟨[61, 49, 68]⟩⟩ 313), (.str ⟨⟨[61, 49, 69]⟩⟩ 317), (.str ⟨⟨[61, 49, 70]⟩⟩ 321), (.str ⟨⟨[61, 50, 48]⟩⟩ 325), (.str ⟨⟨[33]⟩⟩ 1248), (.str ⟨⟨[61, 50, 50]⟩⟩ 333), (.str ⟨⟨[61, 50, 51]⟩⟩ 337), (.str ⟨⟨[61, 50, 52]⟩⟩ 341), (.str ⟨⟨[61, 50, 53]⟩⟩ 345), (.str ⟨⟨[61, 50, 54]⟩⟩ 349), (.str ⟨⟨[61, 50, 55]⟩⟩ 353), (.str ⟨⟨[61, 50, 56]⟩⟩ 357), (.str ⟨⟨[61, 50, 57]⟩⟩ 361), (.str ⟨⟨[42]⟩⟩ 1251), (.str ⟨⟨[43]⟩⟩ 1254), (.str ⟨⟨[61, 50, 67]⟩⟩ 373), (.str ⟨⟨[45]⟩⟩ 1245), (.str ⟨⟨[61, 50, 69]⟩⟩ 381), (.str ⟨⟨[47]⟩⟩ 1257), (.str ⟨⟨[48]⟩⟩ 1416), (.str ⟨⟨[49]⟩⟩ 1419), (.str ⟨⟨[50]⟩⟩ 1422), (.str ⟨⟨[51]⟩⟩ 1425), (.str ⟨⟨[52]⟩⟩ 1428), (.str ⟨⟨[53]⟩⟩ 1431), (.str ⟨⟨[54]⟩⟩ 1434), (.str ⟨⟨[55]⟩⟩ 1437), (.str ⟨⟨[56]⟩⟩ 1440), (.str ⟨⟨[57]⟩⟩ 1443), (.str ⟨⟨[61, 51, 65]⟩⟩ 429), (.str ⟨⟨[61, 51, 66]⟩⟩ 433), (.str ⟨⟨[61, 51, 67]⟩⟩ 437), (.str ⟨⟨[61, 51, 68]⟩⟩ 441), (.str ⟨⟨[61, 51, 69]⟩⟩ 445), (.str ⟨⟨[61, 51, 70]⟩⟩ 449), (.str ⟨⟨[61, 52, 48]⟩⟩ 453), (.str ⟨⟨[65]⟩⟩ 1338), (.str ⟨⟨[66]⟩⟩ 1341), (.str ⟨⟨[67]⟩⟩ 1344), (.str ⟨⟨[68]⟩⟩ 1347), (.str ⟨⟨[69]⟩⟩ 1350), (.str ⟨⟨[70]⟩⟩ 1353), (.str ⟨⟨[71]⟩⟩ 1356), (.str ⟨⟨[72]⟩⟩ 1359), (.str ⟨⟨[73]⟩⟩ 1362), (.str ⟨⟨[74]⟩⟩ 1365), (.str ⟨⟨[75]⟩⟩ 1368), (.str ⟨⟨[76]⟩⟩ 1371), (.str ⟨⟨[77]⟩⟩ 1374), (.str ⟨⟨[78]⟩⟩ 1377), (.str ⟨⟨[79]⟩⟩ 1380), (.str ⟨⟨[80]⟩⟩ 1383), (.str ⟨⟨[81]⟩⟩ 1386), (.str ⟨⟨[82]⟩⟩ 1389), (.str ⟨⟨[83]⟩⟩ 1392), (.str ⟨⟨[84]⟩⟩ 1395), (.str ⟨⟨[85]⟩⟩ 1398), (.str ⟨⟨[86]⟩⟩ 1401), (.str ⟨⟨[87]⟩⟩ 1404), (.str ⟨⟨[88]⟩⟩ 1407), (.str ⟨⟨[89]⟩⟩ 1410), (.str ⟨⟨[90]⟩⟩ 1413), (.str ⟨⟨[61, 53, 66]⟩⟩ 561), (.str ⟨⟨[61, 53, 67]⟩⟩ 565), (.str ⟨⟨[61, 53, 68]⟩⟩ 569), (.str ⟨⟨[61, 53, 69]⟩⟩ 573), (.str ⟨⟨[61, 53, 70]⟩⟩ 577), (.str ⟨⟨[61, 54, 48]⟩⟩ 581), (.str ⟨⟨[97]⟩⟩ 1260), (.str ⟨⟨[98]⟩⟩ 1263), (.str ⟨⟨[99]⟩⟩ 1266), (.str ⟨⟨[100]⟩⟩ 1269), (.str ⟨⟨[101]⟩⟩ 1272), (.str ⟨⟨[102]⟩⟩ 1275), (.str ⟨⟨[103]⟩⟩ 1278), (.str ⟨⟨[104]⟩⟩ 1281), (.str ⟨⟨[105]⟩⟩ 1284), (.str ⟨⟨[106]⟩⟩ 1287), (.str ⟨⟨[107]⟩⟩ 1290), (.str ⟨⟨[108]⟩⟩ 1293), (.str ⟨⟨[109]⟩⟩ 1296), (.str ⟨⟨[110]⟩⟩ 1299), (.str ⟨⟨[111]⟩⟩ 1302), (.str ⟨⟨[112]⟩⟩ 1305), (.str ⟨⟨[113]⟩⟩ 1308), (.str ⟨⟨[114]⟩⟩ 1311), (.str ⟨⟨[115]⟩⟩ 1314), (.str ⟨⟨[116]⟩⟩ 1317), (.str ⟨⟨[117]⟩⟩ 1320), (.str ⟨⟨[118]⟩⟩ 1323), (.str ⟨⟨[119]⟩⟩ 1326), (.str ⟨⟨[120]⟩⟩ 1329), (.str ⟨⟨[121]⟩⟩ 1332), (.str ⟨⟨[122]⟩⟩ 1335), (.str ⟨⟨[61, 55, 66]⟩⟩ 689), (.str ⟨⟨[61, 55, 67]⟩⟩ 693), (.str ⟨⟨[61, 55, 68]⟩⟩ 697), (.str ⟨⟨[61, 55, 69]⟩⟩ 701), (.str ⟨⟨[61, 55, 70]⟩⟩ 705), (.str ⟨⟨[61, 56, 48]⟩⟩ 709), (.str ⟨⟨[61, 56, 49]⟩⟩ 713), (.str ⟨⟨[61, 56, 50]⟩⟩ 717), (.str ⟨⟨[61, 56, 51]⟩⟩ 721), (.str ⟨⟨[61, 56, 52]⟩⟩ 725), (.str ⟨⟨[61, 56, 53]⟩⟩ 729), (.str ⟨⟨[61, 56, 54]⟩⟩ 733), (.str ⟨⟨[61, 56, 55]⟩⟩ 737), (.str ⟨⟨[61, 56, 56]⟩⟩ 741), (.str ⟨⟨[61, 56, 57]⟩⟩ 745), (.str ⟨⟨[61, 56, 65]⟩⟩ 749), (.str ⟨⟨[61, 56, 66]⟩⟩ 753), (.str ⟨⟨[61, 56, 67]⟩⟩ 757), (.str ⟨⟨[61, 56, 68]⟩⟩ 761), (.str ⟨⟨[61, 56, 69]⟩⟩ 765), (.str ⟨⟨[61, 56, 70]⟩⟩ 769), (.str ⟨⟨[61, 57, 48]⟩⟩ 773), (.str ⟨⟨[61, 57, 49]⟩⟩ 777), (.str ⟨⟨[61, 57, 50]⟩⟩ 781), (.str ⟨⟨[61, 57, 51]⟩⟩ 785), (.str ⟨⟨[61, 57, 52]⟩⟩ 789), (.str ⟨⟨[61, 57, 53]⟩⟩ 793), (.str ⟨⟨[61, 57, 54]⟩⟩ 797), (.str ⟨⟨[61, 57, 55]⟩⟩ 801), (.str ⟨⟨[61, 57, 56]⟩⟩ 805), (.str ⟨⟨[61, 57, 57]⟩⟩ 809), (.str ⟨⟨[61, 57, 65]⟩⟩ 813), (.str ⟨⟨[61, 57, 66]⟩⟩ 817), (.str ⟨⟨[61, 57, 67]⟩⟩ 821), (.str ⟨⟨[61, 57, 68]⟩⟩ 825), (.str ⟨⟨[61, 57, 69]⟩⟩ 829), (.str ⟨⟨[61, 57, 70]⟩⟩ 833), (.str ⟨⟨[61, 65, 48]⟩⟩ 837), (.str ⟨⟨[61, 65, 49]⟩⟩ 841), (.str ⟨⟨[61, 65, 50]⟩⟩ 845), (.str ⟨⟨[61, 65, 51]⟩⟩ 849), (.str ⟨⟨[61, 65, 52]⟩⟩ 853), (.str ⟨⟨[61, 65, 53]⟩⟩ 857), (.str ⟨⟨[61, 65, 54]⟩⟩ 861), (.str ⟨⟨[61, 65, 55]⟩⟩ 865), (.str ⟨⟨[61, 65, 56]⟩⟩ 869), (.str ⟨⟨[61, 65, 57]⟩⟩ 873), (.str ⟨⟨[61, 65, 65]⟩⟩ 877), (.str ⟨⟨[61, 65, 66]⟩⟩ 881), (.str ⟨⟨[61, 65, 67]⟩⟩ 885), (.str ⟨⟨[61, 65, 68]⟩⟩ 889), (.str ⟨⟨[61, 65, 69]⟩⟩ 893), (.str ⟨⟨[61, 65, 70]⟩⟩ 897), (.str ⟨⟨[61, 66, 48]⟩⟩ 901), (.str ⟨⟨[61, 66, 49]⟩⟩ 905), (.str ⟨⟨[61, 66, 50]⟩⟩ 909), (.str ⟨⟨[61, 66, 51]⟩⟩ 913), (.str ⟨⟨[61, 66, 52]⟩⟩ 917), (.str ⟨⟨[61, 66, 53]⟩⟩ 921), (.str ⟨⟨[61, 66, 54]⟩⟩ 925), (.str ⟨⟨[61, 66, 55]⟩⟩ 929), (.str ⟨⟨[61, 66, 56]⟩⟩ 933), (.str ⟨⟨[61, 66, 57]⟩⟩ 937), (.str ⟨⟨[61, 66, 65]⟩⟩ 941), (.str ⟨⟨[61, 66, 66]⟩⟩ 945), (.str ⟨⟨[61, 66, 67]⟩⟩ 949), (.str ⟨⟨[61, 66, 68]⟩⟩ 953), (.str ⟨⟨[61, 66, 69]⟩⟩ 957), (.str ⟨⟨[61, 66, 70]⟩⟩ 961), (.str ⟨⟨[61, 67, 48]⟩⟩ 965), (.str ⟨⟨[61, 67, 49]⟩⟩ 969), (.str ⟨⟨[61, 67, 50]⟩⟩ 973), (.str ⟨⟨[61, 67, 51]⟩⟩ 977), (.str ⟨⟨[61, 67, 52]⟩⟩ 981), (.str ⟨⟨[61, 67, 53]⟩⟩ 985), (.str ⟨⟨[61, 67, 54]⟩⟩ 989), (.str ⟨⟨[61, 67, 55]⟩⟩ 993), (.str ⟨⟨[61, 67, 56]⟩⟩ 997), (.str ⟨⟨[61, 67, 57]⟩⟩ 1001), (.str ⟨⟨[61, 67, 65]⟩⟩ 1005), (.str ⟨⟨[61, 67, 66]⟩⟩ 1009), (.str ⟨⟨[61, 67, 67]⟩⟩ 1013), (.str ⟨⟨[61, 67, 68]⟩⟩ 1017), (.str ⟨⟨[61, 67, 69]⟩⟩ 1021), (.str ⟨⟨[61, 67, 70]⟩⟩ 1025), (.str ⟨⟨[61, 68, 48]⟩⟩ 1029), (.str ⟨⟨[61, 68, 49]⟩⟩ 1033), (.str ⟨⟨[61, 68, 50]⟩⟩ 1037), (.str ⟨⟨[61, 68, 51]⟩⟩ 1041), (.str ⟨⟨[61, 68, 52]⟩⟩ 1045), (.str ⟨⟨[61, 68, 53]⟩⟩ 1049), (.str ⟨⟨[61, 68, 54]⟩⟩ 1053), (.str ⟨⟨[61, 68, 55]⟩⟩ 1057), (.str ⟨⟨[61, 68, 56]⟩⟩ 1061), (.str ⟨⟨[61, 68, 57]⟩⟩ 1065), (.str ⟨⟨[61, 68, 65]⟩⟩ 1069), (.str ⟨⟨[61, 68, 66]⟩⟩ 1073), (.str ⟨⟨[61, 68, 67]⟩⟩ 1077), (.str ⟨⟨[61, 68, 68]⟩⟩ 1081), (.str ⟨⟨[61, 68, 69]⟩⟩ 1085), (.str ⟨⟨[61, 68, 70]⟩⟩ 1089), (.str ⟨⟨[61, 69, 48]⟩⟩ 1093), (.str ⟨⟨[61, 69, 49]⟩⟩ 1097), (.str ⟨⟨[61, 69, 50]⟩⟩ 1101), (.str ⟨⟨[61, 69, 51]⟩⟩ 1105), (.str ⟨⟨[61, 69, 52]⟩⟩ 1109), (.str ⟨⟨[61, 69, 53]⟩⟩ 1113), (.str ⟨⟨[61, 69, 54]⟩⟩ 1117), (.str ⟨⟨[61, 69, 55]⟩⟩ 1121), (.str ⟨⟨[61, 69, 56]⟩⟩ 1125), (.str ⟨⟨[61, 69, 57]⟩⟩ 1129), (.str ⟨⟨[61, 69, 65]⟩⟩ 1133), (.str ⟨⟨[61, 69, 66]⟩⟩ 1137), (.str ⟨⟨[61, 69, 67]⟩⟩ 1141), (.str ⟨⟨[61, 69, 68]⟩⟩ 1145), (.str ⟨⟨[61, 69, 69]⟩⟩ 1149), (.str ⟨⟨[61, 69, 70]⟩⟩ 1153), (.str ⟨⟨[61, 70, 48]⟩⟩ 1157), (.str ⟨⟨[61, 70, 49]⟩⟩ 1161), (.str ⟨⟨[61, 70, 50]⟩⟩ 1165), (.str ⟨⟨[61, 70, 51]⟩⟩ 1169), (.str ⟨⟨[61, 70, 52]⟩⟩ 1173), (.str ⟨⟨[61, 70, 53]⟩⟩ 1177), (.str ⟨⟨[61, 70, 54]⟩⟩ 1181), (.str ⟨⟨[61, 70, 55]⟩⟩ 1185), (.str ⟨⟨[61, 70, 56]⟩⟩ 1189), (.str ⟨⟨[61, 70, 57]⟩⟩ 1193), (.str ⟨⟨[61, 70, 65]⟩⟩ 1197), (.str ⟨⟨[61, 70, 66]⟩⟩ 1201), (.str ⟨⟨[61, 70, 67]⟩⟩ 1205), (.str ⟨⟨[61, 70, 68]⟩⟩ 1209), (.str ⟨⟨[61, 70, 69]⟩⟩ 1213), (.str ⟨⟨[61, 70, 70]⟩⟩ 1217)] 0) #[])
noncomputable def o2_23 (p : Cq) (P : Params) : Obj := (@PySem.Obj.mk (@PySem.Value.type "slice") none (@PySem.Data.fields #[PySem.Value.none, PySem.Value.none, PySem.Value.none]) #[])
noncomputable def o2_24 (p : Cq) (P : Params) : Obj := (@PySem.Obj.mk (@PySem.Value.type "list") none (@PySem.Data.seq #[(.str ⟨⟨[61, 48, 48]⟩⟩ 197), (.str ⟨⟨[61, 48, 49]⟩⟩ 201), (.str ⟨⟨[61, 48, 50]⟩⟩ 205), (.str ⟨⟨[61, 48, 51]⟩⟩ 209), (.str ⟨⟨[61, 48, 52]⟩⟩ 213), (.str ⟨⟨[61, 48, 53]⟩⟩ 217), (.str ⟨⟨[61, 48, 54]⟩⟩ 221), (.str ⟨⟨[61, 48, 55]⟩⟩ 225), (.str ⟨⟨[61, 48, 56]⟩⟩ 229), (.str ⟨⟨[61, 48, 57]⟩⟩ 233), (.str ⟨⟨[61, 48, 65]⟩⟩ 237), (.str ⟨⟨[61, 48, 66]⟩⟩ 241), (.str ⟨⟨[61, 48, 67]⟩⟩ 245), (.str ⟨⟨[61, 48, 68]⟩⟩ 249), (.str ⟨⟨[61, 48, 69]⟩⟩ 253), (.str ⟨⟨[61, 48, 70]⟩⟩ 257), (.str ⟨⟨[61, 49, 48]⟩⟩ 261), (.str ⟨⟨[61, 49, 49]⟩⟩ 265), (.str ⟨⟨[61, 49, 50]⟩⟩ 269), (.str ⟨⟨[61, 49, 51]⟩⟩ 273), (.str ⟨⟨[61, 49, 52]⟩⟩ 277), (.str ⟨⟨[61, 49, 53]⟩⟩ 281), (.str ⟨⟨[61, 49, 54]⟩⟩ 285), (.str ⟨⟨[61, 49, 55]⟩⟩ 289), (.str ⟨⟨[61, 49, 56]⟩⟩ 293), (.str ⟨⟨[61, 49, 57]⟩⟩ 297), (.str ⟨⟨[61, 49, 65]⟩⟩ 301), (.str ⟨⟨[61, 49, 66]⟩⟩ 305), (.str ⟨⟨[61, 49, 67]⟩⟩ 309), (.str ⟨⟨[61, 49, 68]⟩⟩ 313), (.str ⟨⟨[61, 49, 69]⟩⟩ 317), (.str ⟨⟨[61, 49, 70]⟩⟩ 321), (.str ⟨⟨[61, 50, 48]⟩⟩ 325), (.str ⟨⟨[61, 50, 49]⟩⟩ 329), (.str ⟨⟨[61, 50, 50]⟩⟩ 333), (.str ⟨⟨[61, 50, 51]⟩⟩ 337), (.str ⟨⟨[61, 50, 52]⟩⟩ 341), (.str ⟨⟨[61, 50, 53]⟩⟩ 345), (.str ⟨⟨[61, 50, 54]⟩⟩ 349), (.str ⟨⟨[61, 50, 55]⟩⟩ 353), (.str ⟨⟨[61, 50, 56]⟩⟩ 357), (.str ⟨⟨[61, 50, 57]⟩⟩ 361), (.str ⟨⟨[61, 50, 65]⟩⟩ 365), (.str ⟨⟨[61, 50, 66]⟩⟩ 369), (.str ⟨⟨[61, 50, 67]⟩⟩ 373), (.str ⟨⟨[61, 50, 68]⟩⟩ 377), (.str ⟨⟨[61, 50, 69]⟩⟩ 381), (.str ⟨⟨[61, 50, 70]⟩⟩ 385), (.str ⟨⟨[61, 51, 48]⟩⟩ 389), (.str ⟨⟨[61, 51, 49]⟩⟩ 393), (.str ⟨⟨[61, 51, 50]⟩⟩ 397), (.str ⟨⟨[61, 51, 51]⟩⟩ 401), (.str ⟨⟨[61, 51, 52]⟩⟩ 405), (.str ⟨⟨[61, 51, 53]⟩⟩ 409), (.str ⟨⟨[61, 51, 54]⟩⟩ 413), (.str ⟨⟨[61, 51, 55]⟩⟩ 417), (.str ⟨⟨[61, 51, 56]⟩⟩ 421), (.str ⟨⟨[61, 51, 57]⟩⟩ 425), (.str ⟨⟨[61, 51, 65]⟩⟩ 429), (.str ⟨⟨[61, 51, 66]⟩⟩ 433), (.str ⟨⟨[61, 51, 67]⟩⟩ 437), (.str ⟨⟨[61, 51, 68]⟩⟩ 441), (.str ⟨⟨[61, 51, 69]⟩⟩ 445), (.str ⟨⟨[61, 51, 70]⟩⟩ 449), (.str ⟨⟨[61, 52, 48]⟩⟩ 453), (.str ⟨⟨[61, 52, 49]⟩⟩ 457), (.str ⟨⟨[61, 52, 50]⟩⟩ 461), (.str ⟨⟨[61, 52, 51]⟩⟩ 465), (.str ⟨⟨[61, 52, 52]⟩⟩ 469), (.str ⟨⟨[61, 52, 53]⟩⟩ 473), (.str ⟨⟨[61, 52, 54]⟩⟩ 477), (.str ⟨⟨[61, 52, 55]⟩⟩ 481), (.str ⟨⟨[61, 52, 56]⟩⟩ 485), (.str ⟨⟨[61, 52, 57]⟩⟩ 489), (.str ⟨⟨[61, 52, 65]⟩⟩ 493), (.str ⟨⟨[61, 52, 66]⟩⟩ 497), (.str ⟨⟨[61, 52, 67]⟩⟩ 501), (.str ⟨⟨[61, 52, 68]⟩⟩ 505), (.str ⟨⟨[61, 52, 69]⟩⟩ 509), (.str ⟨⟨[61, 52, 70]⟩⟩ 513), (.str ⟨⟨[61, 53, 48]⟩⟩ 517), (.str ⟨⟨[61, 53, 49]⟩⟩ 521), (.str ⟨⟨[61, 53, 50]⟩⟩ 525), (.str ⟨⟨[61, 53, 51]⟩⟩ 529), (.str ⟨⟨[61, 53, 52]⟩⟩ 533), (.str ⟨⟨[61, 53, 53]⟩⟩ 537), (.str ⟨⟨[61, 53, 54]⟩⟩ 541), (.str ⟨⟨[61, 53, 55]⟩⟩ 545), (.str ⟨⟨[61, 53, 56]⟩⟩ 549), (.str ⟨⟨[61, 53, 57]⟩⟩ 553), (.str ⟨⟨[61, 53, 65]⟩⟩ 557), (.str ⟨⟨[61, 53, 66]⟩⟩ 561), (.str ⟨⟨[61, 53, 67]⟩⟩ 565), (.str ⟨⟨[61, 53, 68]⟩⟩ 569), (.str ⟨⟨[61, 53, 69]⟩⟩ 573), (.str ⟨⟨[61, 53, 70]⟩⟩ 577), (.str ⟨⟨[61, 54, 48]⟩⟩ 581), (.str ⟨⟨[61, 54, 49]⟩⟩ 585), (.str ⟨⟨[61, 54, 50]⟩⟩ 589), (.str ⟨⟨[61, 54, 51]⟩⟩ 593), (.str ⟨⟨[61, 54, 52]⟩⟩ 597), (.str ⟨⟨[61, 54, 53]⟩⟩ 601), (.str ⟨⟨[61, 54, 54]⟩⟩ 605), (.str ⟨⟨[61, 54, 55]⟩⟩ 609), (.str ⟨⟨[61, 54, 56]⟩⟩ 613), (.str ⟨⟨[61, 54, 57]⟩⟩ 617), (.str ⟨⟨[61, 54, 65]⟩⟩ 621), (.str ⟨⟨[61, 54, 66]⟩⟩ 625), (.str ⟨⟨[61, 54, 67]⟩⟩ 629), (.str ⟨⟨[61, 54, 68]⟩⟩ 633), (.str ⟨⟨[61, 54, 69]⟩⟩ 637), (.str ⟨⟨[61, 54, 70]⟩⟩ 641), (.str ⟨⟨[61, 55, 48]⟩⟩ 645), (.str ⟨⟨[61, 55, 49]⟩⟩ 649), (.str ⟨⟨[61, 55, 50]⟩⟩ 653), (.str ⟨⟨[61, 55, 51]⟩⟩ 657), (.str ⟨⟨[61, 55, 52]⟩⟩ 661), (.str ⟨⟨[61, 55, 53]⟩⟩ 665), (.str ⟨⟨[61, 55, 54]⟩⟩ 669), (.str ⟨⟨[61, 55, 55]⟩⟩ 673), (.str ⟨⟨[61, 55, 56]⟩⟩ 677), (.str ⟨⟨[61, 55, 57]⟩⟩ 681), (.str ⟨⟨[61, 55, 65]⟩⟩ 685), (.str ⟨⟨[61, 55, 66]⟩⟩ 689), (.str ⟨⟨[61, 55, 67]⟩⟩ 693), (.str ⟨⟨[61, 55, 68]⟩⟩ 697), (.str ⟨⟨[61, 55, 69]⟩⟩ 701), (.str ⟨⟨[61, 55, 70]⟩⟩ 705), (.str ⟨⟨[61, 56, 48]⟩⟩ 709), (.str ⟨⟨[61, 56, 49]⟩⟩ 713), (.str ⟨⟨[61, 56, 50]⟩⟩ 717), (.str ⟨⟨[61, 56, 51]⟩⟩ 721), (.str ⟨⟨[61, 56, 52]⟩⟩ 725), (.str ⟨⟨[61, 56, 53]⟩⟩ 729), (.str ⟨⟨[61, 56, 54]⟩⟩ 733), (.str ⟨⟨[61, 56, 55]⟩⟩ 737), (.str ⟨⟨[61, 56, 56]⟩⟩ 741), (.str ⟨⟨[61, 56, 57]⟩⟩ 745), (.str ⟨⟨[61, 56, 65]⟩⟩ 749), (.str ⟨⟨[61, 56, 66]⟩⟩ 753), (.str ⟨⟨[61, 56, 67]⟩⟩ 757), (.str ⟨⟨[61, 56, 68]⟩⟩ 761), (.str ⟨⟨[61, 56, 69]⟩⟩ 765), (.str ⟨⟨[61, 56, 70]⟩⟩ 769), (.str ⟨⟨[61, 57, 48]⟩⟩ 773), (.str ⟨⟨[61, 57, 49]⟩⟩ 777), (.str ⟨⟨[61, 57, 50]⟩⟩ 781), (.str ⟨⟨[61, 57, 51]⟩⟩ 785), (.str ⟨⟨[61, 57, 52]⟩⟩ 789), (.str ⟨⟨[61, 57, 53]⟩⟩ 793), (.str ⟨⟨[61, 57, 54]⟩⟩ 797), (.str ⟨⟨[61, 57, 55]⟩⟩ 801), (.str ⟨⟨[61, 57, 56]⟩⟩ 805), (.str ⟨⟨[61, 57, 57]⟩⟩ 809), (.str ⟨⟨[61, 57, 65]⟩⟩ 813), (.str ⟨⟨[61, 57, 66]⟩⟩ 817), (.str ⟨⟨[61, 57, 67]⟩⟩ 821), (.str ⟨⟨[61, 57, 68]⟩⟩ 825), (.str ⟨⟨[61, 57, 69]⟩⟩ 829), (.str ⟨⟨[61, 57, 70]⟩⟩ 833), (.str ⟨⟨[61, 65, 48]⟩⟩ 837), (.str ⟨⟨[61, 65, 49]⟩⟩ 841), (.str ⟨⟨[61, 65, 50]⟩⟩ 845), (.str ⟨⟨[61, 65, 51]⟩⟩ 849), (.str ⟨⟨[61, 65, 52]⟩⟩ 853), (.str ⟨⟨[61, 65, 53]⟩⟩ 857), (.str ⟨⟨[61, 65, 54]⟩⟩ 861), (.str ⟨⟨[61, 65, 55]⟩⟩ 865), (.str ⟨⟨[61, 65, 56]⟩⟩ 869), (.str ⟨⟨[61, 65, 57]⟩⟩ 873), (.str ⟨⟨[61, 65, 65]⟩⟩ 877), (.str ⟨⟨[61, 65, 66]⟩⟩ 881), (.str ⟨⟨[61, 65, 67]⟩⟩ 885), (.str ⟨⟨[61, 65, 68]⟩⟩ 889), (.str ⟨⟨[61, 65, 69]⟩⟩ 893), (.str ⟨⟨[61, 65, 70]⟩⟩ 897), (.str ⟨⟨[61, 66, 48]⟩⟩ 901), (.str ⟨⟨[61, 66, 49]⟩⟩ 905), (.str ⟨⟨[61, 66, 50]⟩⟩ 909), (.str ⟨⟨[61, 66, 51]⟩⟩ 913), (.str ⟨⟨[61, 66, 52]⟩⟩ 917), (.str ⟨⟨[61, 66, 53]⟩⟩ 921), (.str ⟨⟨[61, 66, 54]⟩⟩ 925), (.str ⟨⟨[61, 66, 55]⟩⟩ 929), (.str ⟨⟨[61, 66, 56]⟩⟩ 933), (.str ⟨⟨[61, 66, 57]⟩⟩ 937), (.str ⟨⟨[61, 66, 65]⟩⟩ 941), (.str ⟨⟨[61, 66, 66]⟩⟩ 945), (.str ⟨⟨[61, 66, 67]⟩⟩ 949), (.str ⟨⟨[61, 66, 68]⟩⟩ 953), (.str ⟨⟨[61, 66, 69]⟩⟩ 957), (.str ⟨⟨[61, 66, 70]⟩⟩ 961), (.str ⟨⟨[61, 67, 48]⟩⟩ 965), (.str ⟨⟨[61, 67, 49]⟩⟩ 969), (.str ⟨⟨[61, 67, 50]⟩⟩ 973), (.str ⟨⟨[61, 67, 51]⟩⟩ 977), (.str ⟨⟨[61, 67, 52]⟩⟩ 981), (.str ⟨⟨[61, 67, 53]⟩⟩ 985), (.str ⟨⟨[61, 67, 54]⟩⟩ 989), (.str ⟨⟨[61, 67, 55]⟩⟩ 993), (.str ⟨⟨[61, 67, 56]⟩⟩ 997), (.str ⟨⟨[61, 67, 57]⟩⟩ 1001), (.str ⟨⟨[61, 67, 65]⟩⟩ 1005), (.str ⟨⟨[61, 67, 66]⟩⟩ 1009), (.str ⟨⟨[61, 67, 67]⟩⟩ 1013), (.str ⟨⟨[61, 67, 68]⟩⟩ 1017), (.str ⟨⟨[61, 67, 69]⟩⟩ 1021), (.str ⟨⟨[61, 67, 70]⟩⟩ 1025), (.str ⟨⟨[61, 68, 48]⟩⟩ 1029), (.str ⟨⟨[61, 68, 49]⟩⟩ 1033), (.str ⟨⟨[61, 68, 50]⟩⟩ 1037), (.str ⟨⟨[61, 68, 51]⟩⟩ 1041), (.str ⟨⟨[61, 68, 52]⟩⟩ 1045), (.str ⟨⟨[61, 68, 53]⟩⟩ 1049), (.str ⟨⟨[61, 68, 54]⟩⟩ 1053), (.str ⟨⟨[61, 68, 55]⟩⟩ 1057), (.str ⟨⟨[61, 68, 56]⟩⟩ 1061), (.str ⟨⟨[61, 68, 57]⟩⟩ 1065), (.str ⟨⟨[61, 68, 65]⟩⟩ 1069), (.str ⟨⟨[61, 68, 66]⟩⟩ 1073), (.str ⟨⟨[61, 68, 67]⟩⟩ 1077), (.str ⟨⟨[61, 68, 68]⟩⟩ 1081), (.str ⟨⟨[61, 68, 69]⟩⟩ 1085), (.str ⟨⟨[61, 68, 70]⟩⟩ 1089), (.str ⟨⟨[61, 69, 48]⟩⟩ 1093), (.str ⟨⟨[61, 69, 49]⟩⟩ 1097), (.str ⟨⟨[61, 69, 50]⟩⟩ 1101), (.str ⟨⟨[61, 69, 51]⟩⟩ 1105), (.str ⟨⟨[61, 69, 52]⟩⟩ 1109), (.str ⟨⟨[61, 69, 53]⟩⟩ 1113), (.str ⟨⟨[61, 69, 54]⟩⟩ 1117), (.str ⟨⟨[61, 69, 55]⟩⟩ 1121), (.str ⟨⟨[61, 69, 56]⟩⟩ 1125), (.str ⟨⟨[61, 69, 57]⟩⟩ 1129), (.str ⟨⟨[61, 69, 65]⟩⟩ 1133), (.str ⟨⟨[61, 69, 66]⟩⟩ 1137), (.str ⟨⟨[61, 69, 67]⟩⟩ 1141), (.str ⟨⟨[61, 69, 68]⟩⟩ 1145), (.str ⟨⟨[61, 69, 69]⟩⟩ 1149), (.str ⟨⟨[61, 69, 70]⟩⟩ 1153), (.str ⟨⟨[61, 70, 48]⟩⟩ 1157), (.str ⟨⟨[61, 70, 49]⟩⟩ 1161), (.str ⟨⟨[61, 70, 50]⟩⟩ 1165), (.str ⟨⟨[61, 70, 51]⟩⟩ 1169), (.str ⟨⟨[61, 70, 52]⟩⟩ 1173), (.str ⟨⟨[61, 70, 53]⟩⟩ 1177), (.str ⟨⟨[61, 70, 54]⟩⟩ 1181), (.str ⟨⟨[61, 70, 55]⟩⟩ 1185), (.str ⟨⟨[61, 70, 56]⟩⟩ 1189), (.str ⟨⟨[61, 70, 57]⟩⟩ 1193), (.str ⟨⟨[61, 70, 65]⟩⟩ 1197), (.str ⟨⟨[61, 70, 66]⟩⟩ 1201), (.str ⟨⟨[61, 70, 67]⟩⟩ 1205), (.str ⟨⟨[61, 70, 68]⟩⟩ 1209), (.str ⟨⟨[61, 70, 69]⟩⟩ 1213), (.str ⟨⟨[61, 70, 70]⟩⟩ 1217)] 0) #[])
noncomputable def o2_25 (p : Cq) (P : Params) : Obj := (@PySem.Obj.mk (@PySem.Value.type "bytes_iterator") none (@PySem.Data.fields #[PySem.Value.none, (.int 67 0)]) #[])
noncomputable def o2_26 (p : Cq) (P : Params) : Obj := (@PySem.Obj.mk (@PySem.Value.type "tuple") none (@PySem.Data.seq #[] 0) #[])
noncomputable def o2_27 (p : Cq) (P : Params) : Obj := (@PySem.Obj.mk (@PySem.Value.type "StopIteration") none (@PySem.Data.fields #[(.ref 26), PySem.Value.none, PySem.Value.none, PySem.Value.none, (@PySem.Value.bool Bool.false), PySem.Value.none]) #[])
noncomputable def tr2q (p : Cq) (P : Params) : BT := (.node (p.z P) (.node (PySem.W.boot_o_1 P) (.node (o2_3 p P) (.node (PySem.W.boot_o_7 P) (.node (o1_15 p P) .nil .nil) (.node (o2_23 p P) .nil .nil)) (.node (o0_11 p P) (.node (o1_19 p P) .nil .nil) (.node (o2_27 p P) .nil .nil))) (.node (PySem.W.boot_o_5 P) (.node (PySem.W.boot_o_9 P) (.node (o1_17 p P) .nil .nil) (.node (o2_25 p P) .nil .nil)) (.node (o0_13 p P) (.node (o2_21 p P) .nil .nil) .nil))) (.node (PySem.W.boot_o_2 P) (.node (PySem.W.boot_o_4 P) (.node (PySem.W.boot_o_8 P) (.node (o1_16 p P) .nil .nil) (.node (o2_24 p P) .nil .nil)) (.node (o0_12 p P) (.node (o1_20 p P) .nil .nil) .nil)) (.node (PySem.W.boot_o_6 P) (.node (PySem.W.boot_o_10 P) (.node (o1_18 p P) .nil .nil) (.node (o2_26 p P) .nil .nil)) (.node (o0_14 p P) (.node (o2_22 p P) .nil .nil) .nil))))
noncomputable def st2 (p : Cx) (w : World) (os : OsState) : SharedT := ⟨p.t2 w.params, 28, lf, #[], boot_drawn, 1444, os⟩
noncomputable def ps2 : Pos := (@PySem.Pos.mk 12 9 12 74)
noncomputable def o3_3 (p : Cq) (P : Params) : Obj := (@PySem.Obj.mk (@PySem.Value.type "dict") none (@PySem.Data.dict #[⟨(@PySem.PyData.keyHash P ⟨⟨[95, 95, 110, 97, 109, 101, 95, 95]⟩⟩), (.str ⟨⟨[95, 95, 110, 97, 109, 101, 95, 95]⟩⟩ 165), (.str ⟨⟨[99, 112, 121, 51, 49, 51, 46, 101, 109, 97, 105, 108, 46, 113, 117, 111, 112, 114, 105, 109, 105, 109, 101]⟩⟩ 1234)⟩, ⟨(@PySem.PyData.keyHash P ⟨⟨[95, 95, 100, 111, 99, 95, 95]⟩⟩), (.str ⟨⟨[95, 95, 100, 111, 99, 95, 95]⟩⟩ 166), PySem.Value.none⟩, ⟨(@PySem.PyData.keyHash P ⟨⟨[95, 95, 112, 97, 99, 107, 97, 103, 101, 95, 95]⟩⟩), (.str ⟨⟨[95, 95, 112, 97, 99, 107, 97, 103, 101, 95, 95]⟩⟩ 167), PySem.Value.none⟩, ⟨(@PySem.PyData.keyHash P ⟨⟨[95, 95, 108, 111, 97, 100, 101, 114, 95, 95]⟩⟩), (.str ⟨⟨[95, 95, 108, 111, 97, 100, 101, 114, 95, 95]⟩⟩ 168), (@PySem.Value.builtin "__main__.__loader__#opaque")⟩, ⟨(@PySem.PyData.keyHash P ⟨⟨[95, 95, 115, 112, 101, 99, 95, 95]⟩⟩), (.str ⟨⟨[95, 95, 115, 112, 101, 99, 95, 95]⟩⟩ 169), PySem.Value.none⟩, ⟨(@PySem.PyData.keyHash P ⟨⟨[95, 95, 97, 110, 110, 111, 116, 97, 116, 105, 111, 110, 115, 95, 95]⟩⟩), (.str ⟨⟨[95, 95, 97, 110, 110, 111, 116, 97, 116, 105, 111, 110, 115, 95, 95]⟩⟩ 170), (.ref 6)⟩, ⟨(@PySem.PyData.keyHash P ⟨⟨[95, 95, 98, 117, 105, 108, 116, 105, 110, 115, 95, 95]⟩⟩), (.str ⟨⟨[95, 95, 98, 117, 105, 108, 116, 105, 110, 115, 95, 95]⟩⟩ 171), (.ref 4)⟩, ⟨(@PySem.PyData.keyHash P ⟨⟨[95, 95, 102, 105, 108, 101, 95, 95]⟩⟩), (.str ⟨⟨[95, 95, 102, 105, 108, 101, 95, 95]⟩⟩ 173), (.str ⟨⟨[47, 99, 108, 97, 105, 109, 47, 99, 117, 116, 46, 112, 121]⟩⟩ 172)⟩, ⟨(@PySem.PyData.keyHash P ⟨⟨[95, 95, 99, 97, 99, 104, 101, 100, 95, 95]⟩⟩), (.str ⟨⟨[95, 95, 99, 97, 99, 104, 101, 100, 95, 95]⟩⟩ 174), PySem.Value.none⟩, ⟨(@PySem.PyData.keyHash P ⟨⟨[67, 82, 76, 70]⟩⟩), (.str ⟨⟨[67, 82, 76, 70]⟩⟩ 188), (.str ⟨⟨[13, 10]⟩⟩ 187)⟩, ⟨(@PySem.PyData.keyHash P ⟨⟨[78, 76]⟩⟩), (.str ⟨⟨[78, 76]⟩⟩ 190), (.str ⟨⟨[10]⟩⟩ 189)⟩, ⟨(@PySem.PyData.keyHash P ⟨⟨[95, 81, 85, 79, 80, 82, 73, 95, 77, 65, 80]⟩⟩), (.str ⟨⟨[95, 81, 85, 79, 80, 82, 73, 95, 77, 65, 80]⟩⟩ 1218), (.ref 17)⟩, ⟨(@PySem.PyData.keyHash P ⟨⟨[95, 81, 85, 79, 80, 82, 73, 95, 72, 69, 65, 68, 69, 82, 95, 77, 65, 80]⟩⟩), (.str ⟨⟨[95, 81, 85, 79, 80, 82, 73, 95, 72, 69, 65, 68, 69, 82, 95, 77, 65, 80]⟩⟩ 1219), (.ref 22)⟩, ⟨(@PySem.PyData.keyHash P ⟨⟨[95, 81, 85, 79, 80, 82, 73, 95, 66, 79, 68, 89, 95, 77, 65, 80]⟩⟩), (.str ⟨⟨[95, 81, 85, 79, 80, 82, 73, 95, 66, 79, 68, 89, 95, 77, 65, 80]⟩⟩ 1220), (.ref 24)⟩, ⟨(@PySem.PyData.keyHash P ⟨⟨[97, 115, 99, 105, 105, 95, 108, 111, 119, 101, 114, 99, 97, 115, 101]⟩⟩), (.str ⟨⟨[97, 115, 99, 105, 105, 95, 108, 111, 119, 101, 114, 99, 97, 115, 101]⟩⟩ 1222), (.str ⟨⟨[97, 98, 99, 100, 101, 102, 103, 104, 105, 106, 107, 108, 109, 110, 111, 112, 113, 114, 115, 116, 117, 118, 119, 120, 121, 122]⟩⟩ 1221)⟩, ⟨(@PySem.PyData.keyHash P ⟨⟨[97, 115, 99, 105, 105, 95, 117, 112, 112, 101, 114, 99, 97, 115, 101]⟩⟩), (.str ⟨⟨[97, 115, 99, 105, 105, 95, 117, 112, 112, 101, 114, 99, 97, 115, 101]⟩⟩ 1224), (.str ⟨⟨[65, 66, 67, 68, 69, 70, 71, 72, 73, 74, 75, 76, 77, 78, 79, 80, 81, 82, 83, 84, 85, 86, 87, 88, 89, 90]⟩⟩ 1223)⟩, ⟨(@PySem.PyData.keyHash P ⟨⟨[97, 115, 99, 105, 105, 95, 108, 101, 116, 116, 101, 114, 115]⟩⟩), (.str ⟨⟨[97, 115, 99, 105, 105, 95, 108, 101, 116, 116, 101, 114, 115]⟩⟩ 1226), (.str ⟨⟨[97, 98, 99, 100, 101, 102, 103, 104, 105, 106, 107, 108, 109, 110, 111, 112, 113, 114, 115, 116, 117, 118, 119, 120, 121, 122, 65, 66, 67, 68, 69, 70, 71, 72, 73, 74, 75, 76, 77, 78, 79, 80, 81, 82, 83, 84, 85, 86, 87, 88, 89, 90]⟩⟩ 1225)⟩, ⟨(@PySem.PyData.keyHash P ⟨⟨[100, 105, 103, 105, 116, 115]⟩⟩), (.str ⟨⟨[100, 105, 103, 105, 116, 115]⟩⟩ 1228), (.str ⟨⟨[48, 49, 50, 51, 52, 53, 54, 55, 56, 57]⟩⟩ 1227)⟩, ⟨(@PySem.PyData.keyHash P ⟨⟨[104, 101, 120, 100, 105, 103, 105, 116, 115]⟩⟩), (.str ⟨⟨[104, 101, 120, 100, 105, 103, 105, 116, 115]⟩⟩ 1233), (.str ⟨⟨[48, 49, 50, 51, 52, 53, 54, 55, 56, 57, 97, 98, 99, 100, 101, 102, 65, 66, 67, 68, 69, 70]⟩⟩ 1232)⟩, ⟨(@PySem.PyData.keyHash P ⟨⟨[99]⟩⟩), (.str ⟨⟨[99]⟩⟩ 1244), (.int 9 1730)⟩] 20) #[])
noncomputable def o3_22 (p : Cq) (P : Params) : Obj := (@PySem.Obj.mk (@PySem.Value.type "list") none (@PySem.Data.seq #[(.str ⟨⟨[61, 48, 48]⟩⟩ 197), (.str ⟨⟨[61, 48, 49]⟩⟩ 201), (.str ⟨⟨[61, 48, 50]⟩⟩ 205), (.str ⟨⟨[61, 48, 51]⟩⟩ 209), (.str ⟨⟨[61, 48, 52]⟩⟩ 213), (.str ⟨⟨[61, 48, 53]⟩⟩ 217), (.str ⟨⟨[61, 48, 54]⟩⟩ 221), (.str ⟨⟨[61, 48, 55]⟩⟩ 225), (.str ⟨⟨[61, 48, 56]⟩⟩ 229), (.str ⟨⟨[61, 48, 57]⟩⟩ 233), (.str ⟨⟨[61, 48, 65]⟩⟩ 237), (.str ⟨⟨[61, 48, 66]⟩⟩ 241), (.str ⟨⟨[61, 48, 67]⟩⟩ 245), (.str ⟨⟨[61, 48, 68]⟩⟩ 249), (.str ⟨⟨[61, 48, 69]⟩⟩ 253), (.str ⟨⟨[61, 48, 70]⟩⟩ 257), (.str ⟨⟨[61, 49, 48]⟩⟩ 261), (.str ⟨⟨[61, 49, 49]⟩⟩ 265), (.str ⟨⟨[61, 49, 50]⟩⟩ 269), (.str ⟨⟨[61, 49, 51]⟩⟩ 273), (.str ⟨⟨[61, 49, 52]⟩⟩ 277), (.str ⟨⟨[61, 49, 53]⟩⟩ 281), (.str ⟨⟨[61, 49, 54]⟩⟩ 285), (.str ⟨⟨[61, 49, 55]⟩⟩ 289), (.str ⟨⟨[61, 49, 56]⟩⟩ 293), (.str ⟨⟨[61, 49, 57]⟩⟩ 297), (.str ⟨⟨[61, 49, 65]⟩⟩ 301), (.str ⟨⟨[61, 49, 66]⟩⟩ 305), (.str ⟨⟨[61, 49, 67]⟩⟩ 309), (.str ⟨⟨[61, 49, 68]⟩⟩ 313), (.str ⟨⟨[61, 49, 69]⟩⟩ 317), (.str ⟨⟨[61, 49, 70]⟩⟩ 321), (.str ⟨⟨[95]⟩⟩ 1444), (.str ⟨⟨[33]⟩⟩ 1248), (.str ⟨⟨[61, 50, 50]⟩⟩ 333), (.str ⟨⟨[61, 50, 51]⟩⟩ 337), (.str ⟨⟨[61, 50, 52]⟩⟩ 341), (.str ⟨⟨[61, 50, 53]⟩⟩ 345), (.str ⟨⟨[61, 50, 54]⟩⟩ 349), (.str ⟨⟨[61, 50, 55]⟩⟩ 353), (.str ⟨⟨[61, 50, 56]⟩⟩ 357), (.str ⟨⟨[61, 50, 57]⟩⟩ 361), (.str ⟨⟨[42]⟩⟩ 1251), (.str ⟨⟨[43]⟩⟩ 1254), (.str ⟨⟨[61, 50, 67]⟩⟩ 373), (.str ⟨⟨[45]⟩⟩ 1245), (.str ⟨⟨[61, 50, 69]⟩⟩ 381), (.str ⟨⟨[47]⟩⟩ 1257), (.str ⟨⟨[48]⟩⟩ 1416), (.str ⟨⟨[49]⟩⟩ 1419), (.str ⟨⟨[50]⟩⟩ 1422), (.str ⟨⟨[51]⟩⟩ 1425), (.str ⟨⟨[52]⟩⟩ 1428), (.str ⟨⟨[53]⟩⟩ 1431), (.str ⟨⟨[54]⟩⟩ 1434), (.str ⟨⟨[55]⟩⟩ 1437), (.str ⟨⟨[56]⟩⟩ 1440), (.str ⟨⟨[57]⟩⟩ 1443), (.str ⟨⟨[61, 51, 65]⟩⟩ 429), (.str ⟨⟨[61, 51, 66]⟩⟩ 433), (.str ⟨⟨[61, 51, 67]⟩⟩ 437), (.str ⟨⟨[61, 51, 68]⟩⟩ 441), (.str ⟨⟨[61, 51, 69]⟩⟩ 445), (.str ⟨⟨[61, 51, 70]⟩⟩ 449), (.str ⟨⟨[61, 52, 48]⟩⟩ 453), (.str ⟨⟨[65]⟩⟩ 1338), (.str ⟨⟨[66]⟩⟩ 1341), (.str ⟨⟨[67]⟩⟩ 1344), (.str ⟨⟨[68]⟩⟩ 1347), (.str ⟨⟨[69]⟩⟩ 1350), (.str ⟨⟨[70]⟩⟩ 1353), (.str ⟨⟨[71]⟩⟩ 1356), (.str ⟨⟨[72]⟩⟩ 1359), (.str ⟨⟨[73]⟩⟩ 1362), (.str ⟨⟨[74]⟩⟩ 1365), (.str ⟨⟨[75]⟩⟩ 1368), (.str ⟨⟨[76]⟩⟩ 1371), (.str ⟨⟨[77]⟩⟩ 1374), (.str ⟨⟨[78]⟩⟩ 1377), (.str ⟨⟨[79]⟩⟩ 1380), (.str ⟨⟨[80]⟩⟩ 1383), (.str ⟨⟨[81]⟩⟩ 1386), (.str ⟨⟨[82]⟩⟩ 1389), (.str ⟨⟨[83]⟩⟩ 1392), (.str ⟨⟨[84]⟩⟩ 1395), (.str ⟨⟨[85]⟩⟩ 1398), (.str ⟨⟨[86]⟩⟩ 1401), (.str ⟨⟨[87]⟩⟩ 1404), (.str ⟨⟨[88]⟩⟩ 1407), (.str ⟨⟨[89]⟩⟩ 1410), (.str ⟨⟨[90]⟩⟩ 1413), (.str ⟨⟨[61, 53, 66]⟩⟩ 561), (.str ⟨⟨[61, 53, 67]⟩⟩ 565), (.str ⟨⟨[61, 53, 68]⟩⟩ 569), (.str ⟨⟨[61, 53, 69]⟩⟩ 573), (.str ⟨⟨[61, 53, 70]⟩⟩ 577), (.str ⟨⟨[61, 54, 48]⟩⟩ 581), (.str ⟨⟨[97]⟩⟩ 1260), (.str ⟨⟨[98]⟩⟩ 1263), (.str ⟨⟨[99]⟩⟩ 1266), (.str ⟨⟨[100]⟩⟩ 1269), (.str ⟨⟨[101]⟩⟩ 1272), (.str ⟨⟨[102]⟩⟩ 1275), (.str ⟨⟨[103]⟩⟩ 1278), (.str ⟨⟨[104]⟩⟩ 1281), (.str ⟨⟨[105]⟩⟩ 1284), (.str ⟨⟨[106]⟩⟩ 1287), (.str ⟨⟨[107]⟩⟩ 1290), (.str ⟨⟨[108]⟩⟩ 1293), (.str ⟨⟨[109]⟩⟩ 1296), (.str ⟨⟨[110]⟩⟩ 1299), (.str ⟨⟨[111]⟩⟩ 1302), (.str ⟨⟨[112]⟩⟩ 1305), (.str ⟨⟨[113]⟩⟩ 1308), (.str ⟨⟨[114]⟩⟩ 1311), (.str ⟨⟨[115]⟩⟩ 1314), (.str ⟨⟨[116]⟩⟩ 1317), (.str ⟨⟨[117]⟩⟩ 1320), (.str ⟨⟨[118]⟩⟩ 1323), (.str ⟨⟨[119]⟩⟩ 1326), (.str ⟨⟨[120]⟩⟩ 1329), (.str ⟨⟨[121]⟩⟩ 1332), (.str ⟨⟨[122]⟩⟩ 1335), (.str ⟨⟨[61, 55, 66]⟩⟩ 689), (.str ⟨⟨[61, 55, 67]⟩⟩ 693), (.str ⟨⟨[61, 55, 68]⟩⟩ 697), (.str ⟨⟨[61, 55, 69]⟩⟩ 701), (.str ⟨⟨[61, 55, 70]⟩⟩ 705), (.str ⟨⟨[61, 56, 48]⟩⟩ 709), (.str ⟨⟨[61, 56, 49]⟩⟩ 713), (.str ⟨⟨[61, 56, 50]⟩⟩ 717), (.str ⟨⟨[61, 56, 51]⟩⟩ 721), (.str ⟨⟨[61, 56, 52]⟩⟩ 725), (.str ⟨⟨[61, 56, 53]⟩⟩ 729), (.str ⟨⟨[61, 56, 54]⟩⟩ 733), (.str ⟨⟨[61, 56, 55]⟩⟩ 737), (.str ⟨⟨[61, 56, 56]⟩⟩ 741), (.str ⟨⟨[61, 56, 57]⟩⟩ 745), (.str ⟨⟨[61, 56, 65]⟩⟩ 749), (.str ⟨⟨[61, 56, 66]⟩⟩ 753), (.str ⟨⟨[61, 56, 67]⟩⟩ 757), (.str ⟨⟨[61, 56, 68]⟩⟩ 761), (.str ⟨⟨[61, 56, 69]⟩⟩ 765), (.str ⟨⟨[61, 56, 70]⟩⟩ 769), (.str ⟨⟨[61, 57, 48]⟩⟩ 773), (.str ⟨⟨[61, 57, 49]⟩⟩ 777), (.str ⟨⟨[61, 57, 50]⟩⟩ 781), (.str ⟨⟨[61, 57, 51]⟩⟩ 785), (.str ⟨⟨[61, 57, 52]⟩⟩ 789), (.str ⟨⟨[61, 57, 53]⟩⟩ 793), (.str ⟨⟨[61, 57, 54]⟩⟩ 797), (.str ⟨⟨[61, 57, 55]⟩⟩ 801), (.str ⟨⟨[61, 57, 56]⟩⟩ 805), (.str ⟨⟨[61, 57, 57]⟩⟩ 809), (.str ⟨⟨[61, 57, 65]⟩⟩ 813), (.str ⟨⟨[61, 57, 66]⟩⟩ 817), (.str ⟨⟨[61, 57, 67]⟩⟩ 821), (.str ⟨⟨[61, 57, 68]⟩⟩ 825), (.str ⟨⟨[61, 57, 69]⟩⟩ 829), (.str ⟨⟨[61, 57, 70]⟩⟩ 833), (.str ⟨⟨[61, 65, 48]⟩⟩ 837), (.str ⟨⟨[61, 65, 49]⟩⟩ 841), (.str ⟨⟨[61, 65, 50]⟩⟩ 845), (.str ⟨⟨[61, 65, 51]⟩⟩ 849), (.str ⟨⟨[61, 65, 52]⟩⟩ 853), (.str ⟨⟨[61, 65, 53]⟩⟩ 857), (.str ⟨⟨[61, 65, 54]⟩⟩ 861), (.str ⟨⟨[61, 65, 55]⟩⟩ 865), (.str ⟨⟨[61, 65, 56]⟩⟩ 869), (.str ⟨⟨[61, 65, 57]⟩⟩ 873), (.str ⟨⟨[61, 65, 65]⟩⟩ 877), (.str ⟨⟨[61, 65, 66]⟩⟩ 881), (.str ⟨⟨[61, 65, 67]⟩⟩ 885), (.str ⟨⟨[61, 65, 68]⟩⟩ 889), (.str ⟨⟨[61, 65, 69]⟩⟩ 893), (.str ⟨⟨[61, 65, 70]⟩⟩ 897), (.str ⟨⟨[61, 66, 48]⟩⟩ 901), (.str ⟨⟨[61, 66, 49]⟩⟩ 905), (.str ⟨⟨[61, 66, 50]⟩⟩ 909), (.str ⟨⟨[61, 66, 51]⟩⟩ 913), (.str ⟨⟨[61, 66, 52]⟩⟩ 917), (.str ⟨⟨[61, 66, 53]⟩⟩ 921), (.str ⟨⟨[61, 66, 54]⟩⟩ 925), (.str ⟨⟨[61, 66, 55]⟩⟩ 929), (.str ⟨⟨[61, 66, 56]⟩⟩ 933), (.str ⟨⟨[61, 66, 57]⟩⟩ 937), (.str ⟨⟨[61, 66, 65]⟩⟩ 941), (.str ⟨⟨[61, 66, 66]⟩⟩ 945), (.str ⟨⟨[61, 66, 67]⟩⟩ 949), (.str ⟨⟨[61, 66, 68]⟩⟩ 953), (.str ⟨⟨[61, 66, 69]⟩⟩ 957), (.str ⟨⟨[61, 66, 70]⟩⟩ 961), (.str ⟨⟨[61, 67, 48]⟩⟩ 965), (.str ⟨⟨[61, 67, 49]⟩⟩ 969), (.str ⟨⟨[61, 67, 50]⟩⟩ 973), (.str ⟨⟨[61, 67, 51]⟩⟩ 977), (.str ⟨⟨[61, 67, 52]⟩⟩ 981), (.str ⟨⟨[61, 67, 53]⟩⟩ 985), (.str ⟨⟨[61, 67, 54]⟩⟩ 989), (.str ⟨⟨[61, 67, 55]⟩⟩ 993), (.str ⟨⟨[61, 67, 56]⟩⟩ 997), (.str ⟨⟨[61, 67, 57]⟩⟩ 1001), (.str ⟨⟨[61, 67, 65]⟩⟩ 1005), (.str ⟨⟨[61, 67, 66]⟩⟩ 1009), (.str ⟨⟨[61, 67, 67]⟩⟩ 1013), (.str ⟨⟨[61, 67, 68]⟩⟩ 1017), (.str ⟨⟨[61, 67, 69]⟩⟩ 1021), (.str ⟨⟨[61, 67, 70]⟩⟩ 1025), (.str ⟨⟨[61, 68, 48]⟩⟩ 1029), (.str ⟨⟨[61, 68, 49]⟩⟩ 1033), (.str ⟨⟨[61, 68, 50]⟩⟩ 1037), (.str ⟨⟨[61, 68, 51]⟩⟩ 1041), (.str ⟨⟨[61, 68, 52]⟩⟩ 1045), (.str ⟨⟨[61, 68, 53]⟩⟩ 1049), (.str ⟨⟨[61, 68, 54]⟩⟩ 1053), (.str ⟨⟨[61, 68, 55]⟩⟩ 1057), (.str ⟨⟨[61, 68, 56]⟩⟩ 1061), (.str ⟨⟨[61, 68, 57]⟩⟩ 1065), (.str ⟨⟨[61, 68, 65]⟩⟩ 1069), (.str ⟨⟨[61, 68, 66]⟩⟩ 1073), (.str ⟨⟨[61, 68, 67]⟩⟩ 1077), (.str ⟨⟨[61, 68, 68]⟩⟩ 1081), (.str ⟨⟨[61, 68, 69]⟩⟩ 1085), (.str ⟨⟨[61, 68, 70]⟩⟩ 1089), (.str ⟨⟨[61, 69, 48]⟩⟩ 1093), (.str ⟨⟨[61, 69, 49]⟩⟩ 1097), (.str ⟨⟨[61, 69, 50]⟩⟩ 1101), (.str ⟨⟨[61, 69, 51]⟩⟩ 1105), (.str ⟨⟨[61, 69, 52]⟩⟩ 1109), (.str ⟨⟨[61, 69, 53]⟩⟩ 1113), (.str ⟨⟨[61, 69, 54]⟩⟩ 1117), (.str ⟨⟨[61, 69, 55]⟩⟩ 1121), (.str ⟨⟨[61, 69, 56]⟩⟩ 1125), (.str ⟨⟨[61, 69, 57]⟩⟩ 1129), (.str ⟨⟨[61, 69, 65]⟩⟩ 1133), (.str ⟨⟨[61, 69, 66]⟩⟩ 1137), (.str ⟨⟨[61, 69, 67]⟩⟩ 1141), (.str ⟨⟨[61, 69, 68]⟩⟩ 1145), (.str ⟨⟨[61, 69, 69]⟩⟩ 1149), (.str ⟨⟨[61, 69, 70]⟩⟩ 1153), (.str ⟨⟨[61, 70, 48]⟩⟩ 1157), (.str ⟨⟨[61, 70, 49]⟩⟩ 1161), (.str ⟨⟨[61, 70, 50]⟩⟩ 1165), (.str ⟨⟨[61, 70, 51]⟩⟩ 1169), (.str ⟨⟨[61, 70, 52]⟩⟩ 1173), (.str ⟨⟨[61, 70, 53]⟩⟩ 1177), (.str ⟨⟨[61, 70, 54]⟩⟩ 1181), (.str ⟨⟨[61, 70, 55]⟩⟩ 1185), (.str ⟨⟨[61, 70, 56]⟩⟩ 1189), (.str ⟨⟨[61, 70, 57]⟩⟩ 1193), (.str ⟨⟨[61, 70, 65]⟩⟩ 1197), (.str ⟨⟨[61, 70, 66]⟩⟩ 1201), (.str ⟨⟨[61, 70, 67]⟩⟩ 1205), (.str ⟨⟨[61, 70, 68]⟩⟩ 1209), (.str ⟨⟨[61, 70, 69]⟩⟩ 1213), (.str ⟨⟨[61, 70, 70]⟩⟩ 1217)] 0) #[])
noncomputable def o3_24 (p : Cq) (P : Params) : Obj := (@PySem.Obj.mk (@PySem.Value.type "list") none (@PySem.Data.seq #[(.str ⟨⟨[61, 48, 48]⟩⟩ 197), (.str ⟨⟨[61, 48, 49]⟩⟩ 201), (.str ⟨⟨[61, 48, 50]⟩⟩ 205), (.str ⟨⟨[61, 48, 51]⟩⟩ 209), (.str ⟨⟨[61, 48, 52]⟩⟩ 213), (.str ⟨⟨[61, 48, 53]⟩⟩ 217), (.str ⟨⟨[61, 48, 54]⟩⟩ 221), (.str ⟨⟨[61, 48, 55]⟩⟩ 225), (.str ⟨⟨[61, 48, 56]⟩⟩ 229), (.str ⟨⟨[9]⟩⟩ 1732), (.str ⟨⟨[61, 48, 65]⟩⟩ 237), (.str ⟨⟨[61, 48, 66]⟩⟩ 241), (.str ⟨⟨[61, 48, 67]⟩⟩ 245), (.str ⟨⟨[61, 48, 68]⟩⟩ 249), (.str ⟨⟨[61, 48, 69]⟩⟩ 253), (.str ⟨⟨[61, 48, 70]⟩⟩ 257), (.str ⟨⟨[61, 49, 48]⟩⟩ 261), (.str ⟨⟨[61, 49, 49]⟩⟩ 265), (.str ⟨⟨[61, 49, 50]⟩⟩ 269), (.str ⟨⟨[61, 49, 51]⟩⟩ 273), (.str ⟨⟨[61, 49, 52]⟩⟩ 277), (.str ⟨⟨[61, 49, 53]⟩⟩ 281), (.str ⟨⟨[61, 49, 54]⟩⟩ 285), (.str ⟨⟨[61, 49, 55]⟩⟩ 289), (.str ⟨⟨[61, 49, 56]⟩⟩ 293), (.str ⟨⟨[61, 49, 57]⟩⟩ 297), (.str ⟨⟨[61, 49, 65]⟩⟩ 301), (.str ⟨⟨[61, 49, 66]⟩⟩ 305), (.str ⟨⟨[61, 49, 67]⟩⟩ 309), (.str ⟨⟨[61, 49, 68]⟩⟩ 313), (.str ⟨⟨[61, 49, 69]⟩⟩ 317), (.str ⟨⟨[61, 49, 70]⟩⟩ 321), (.str ⟨⟨[32]⟩⟩ 1450), (.str ⟨⟨[33]⟩⟩ 1453), (.str ⟨⟨[34]⟩⟩ 1456), (.str ⟨⟨[35]⟩⟩ 1459), (.str ⟨⟨[36]⟩⟩ 1462), (.str ⟨⟨[37]⟩⟩ 1465), (.str ⟨⟨[38]⟩⟩ 1468), (.str ⟨⟨[39]⟩⟩ 1471), (.str ⟨⟨[40]⟩⟩ 1474), (.str ⟨⟨[41]⟩⟩ 1477), (.str ⟨⟨[42]⟩⟩ 1480), (.str ⟨⟨[43]⟩⟩ 1483), (.str ⟨⟨[44]⟩⟩ 1486), (.str ⟨⟨[45]⟩⟩ 1489), (.str ⟨⟨[46]⟩⟩ 1492), (.str ⟨⟨[47]⟩⟩ 1495), (.str ⟨⟨[48]⟩⟩ 1498), (.str ⟨⟨[49]⟩⟩ 1501), (.str ⟨⟨[50]⟩⟩ 1504), (.str ⟨⟨[51]⟩⟩ 1507), (.str ⟨⟨[52]⟩⟩ 1510), (.str ⟨⟨[53]⟩⟩ 1513), (.str ⟨⟨[54]⟩⟩ 1516), (.str ⟨⟨[55]⟩⟩ 1519), (.str ⟨⟨[56]⟩⟩ 1522), (.str ⟨⟨[57]⟩⟩ 1525), (.str ⟨⟨[58]⟩⟩ 1528), (.str ⟨⟨[59]⟩⟩ 1531), (.str ⟨⟨[60]⟩⟩ 1534), (.str ⟨⟨[61, 51, 68]⟩⟩ 441), (.str ⟨⟨[62]⟩⟩ 1537), (.str ⟨⟨[63]⟩⟩ 1540), (.str ⟨⟨[64]⟩⟩ 1543), (.str ⟨⟨[65]⟩⟩ 1546), (.str ⟨⟨[66]⟩⟩ 1549), (.str ⟨⟨[67]⟩⟩ 1552), (.str ⟨⟨[68]⟩⟩ 1555), (.str ⟨⟨[69]⟩⟩ 1558), (.str ⟨⟨[70]⟩⟩ 1561), (.str ⟨⟨[71]⟩⟩ 1564), (.str ⟨⟨[72]⟩⟩ 1567), (.str ⟨⟨[73]⟩⟩ 1570), (.str ⟨⟨[74]⟩⟩ 1573), (.str ⟨⟨[75]⟩⟩ 1576), (.str ⟨⟨[76]⟩⟩ 1579), (.str ⟨⟨[77]⟩⟩ 1582), (.str ⟨⟨[78]⟩⟩ 1585), (.str ⟨⟨[79]⟩⟩ 1588), (.str ⟨⟨[80]⟩⟩ 1591), (.str ⟨⟨[81]⟩⟩ 1594), (.str ⟨⟨[82]⟩⟩ 1597), (.str ⟨⟨[83]⟩⟩ 1600), (.str ⟨⟨[84]⟩⟩ 1603), (.str ⟨⟨[85]⟩⟩ 1606), (.str ⟨⟨[86]⟩⟩ 1609), (.str ⟨⟨[87]⟩⟩ 1612), (.str ⟨⟨[88]⟩⟩ 1615), (.str ⟨⟨[89]⟩⟩ 1618), (.str ⟨⟨[90]⟩⟩ 1621), (.str ⟨⟨[91]⟩⟩ 1624), (.str ⟨⟨[92]⟩⟩ 1627), (.str ⟨⟨[93]⟩⟩ 1630), (.str ⟨⟨[94]⟩⟩ 1633), (.str ⟨⟨[95]⟩⟩ 1636), (.str ⟨⟨[96]⟩⟩ 1639), (.str ⟨⟨[97]⟩⟩ 1642), (.str ⟨⟨[98]⟩⟩ 1645), (.str ⟨⟨[99]⟩⟩ 1648), (.str ⟨⟨[100]⟩⟩ 1651), (.str ⟨⟨[101]⟩⟩ 1654), (.str ⟨⟨[102]⟩⟩ 1657), (.str ⟨⟨[103]⟩⟩ 1660), (.str ⟨⟨[104]⟩⟩ 1663), (.str ⟨⟨[105]⟩⟩ 1666), (.str ⟨⟨[106]⟩⟩ 1669), (.str ⟨⟨[107]⟩⟩ 1672), (.str ⟨⟨[108]⟩⟩ 1675), (.str ⟨⟨[109]⟩⟩ 1678), (.str ⟨⟨[110]⟩⟩ 1681), (.str ⟨⟨[111]⟩⟩ 1684), (.str ⟨⟨[112]⟩⟩ 1687), (.str ⟨⟨[113]⟩⟩ 1690), (.str ⟨⟨[114]⟩⟩ 1693), (.str ⟨⟨[115]⟩⟩ 1696), (.str ⟨⟨[116]⟩⟩ 1699), (.str ⟨⟨[117]⟩⟩ 1702), (.str ⟨⟨[118]⟩⟩ 1705), (.str ⟨⟨[119]⟩⟩ 1708), (.str ⟨⟨[120]⟩⟩ 1711), (.str ⟨⟨[121]⟩⟩ 1714), (.str ⟨⟨[122]⟩⟩ 1717), (.str ⟨⟨[123]⟩⟩ 1720), (.str ⟨⟨[124]⟩⟩ 1723), (.str ⟨⟨[125]⟩⟩ 1726), (.str ⟨⟨[126]⟩⟩ 1729), (.str ⟨⟨[61, 55, 70]⟩⟩ 705), (.str ⟨⟨[61, 56, 48]⟩⟩ 709), (.str ⟨⟨[61, 56, 49]⟩⟩ 713), (.str ⟨⟨[61, 56, 50]⟩⟩ 717), (.str ⟨⟨[61, 56, 51]⟩⟩ 721), (.str ⟨⟨[61, 56, 52]⟩⟩ 725), (.str ⟨⟨[61, 56, 53]⟩⟩ 729), (.str ⟨⟨[61, 56, 54]⟩⟩ 733), (.str ⟨⟨[61, 56, 55]⟩⟩ 737), (.str ⟨⟨[61, 56, 56]⟩⟩ 741), (.str ⟨⟨[61, 56, 57]⟩⟩ 745), (.str ⟨⟨[61, 56, 65]⟩⟩ 749), (.str ⟨⟨[61, 56, 66]⟩⟩ 753), (.str ⟨⟨[61, 56, 67]⟩⟩ 757), (.str ⟨⟨[61, 56, 68]⟩⟩ 761), (.str ⟨⟨[61, 56, 69]⟩⟩ 765), (.str ⟨⟨[61, 56, 70]⟩⟩ 769), (.str ⟨⟨[61, 57, 48]⟩⟩ 773), (.str ⟨⟨[61, 57, 49]⟩⟩ 777), (.str ⟨⟨[61, 57, 50]⟩⟩ 781), (.str ⟨⟨[61, 57, 51]⟩⟩ 785), (.str ⟨⟨[61, 57, 52]⟩⟩ 789), (.str ⟨⟨[61, 57, 53]⟩⟩ 793), (.str ⟨⟨[61, 57, 54]⟩⟩ 797), (.str ⟨⟨[61, 57, 55]⟩⟩ 801), (.str ⟨⟨[61, 57, 56]⟩⟩ 805), (.str ⟨⟨[61, 57, 57]⟩⟩ 809), (.str ⟨⟨[61, 57, 65]⟩⟩ 813), (.str ⟨⟨[61, 57, 66]⟩⟩ 817), (.str ⟨⟨[61, 57, 67]⟩⟩ 821), (.str ⟨⟨[61, 57, 68]⟩⟩ 825), (.str ⟨⟨[61, 57, 69]⟩⟩ 829), (.str ⟨⟨[61, 57, 70]⟩⟩ 833), (.str ⟨⟨[61, 65, 48]⟩⟩ 837), (.str ⟨⟨[61, 65, 49]⟩⟩ 841), (.str ⟨⟨[61, 65, 50]⟩⟩ 845), (.str ⟨⟨[61, 65, 51]⟩⟩ 849), (.str ⟨⟨[61, 65, 52]⟩⟩ 853), (.str ⟨⟨[61, 65, 53]⟩⟩ 857), (.str ⟨⟨[61, 65, 54]⟩⟩ 861), (.str ⟨⟨[61, 65, 55]⟩⟩ 865), (.str ⟨⟨[61, 65, 56]⟩⟩ 869), (.str ⟨⟨[61, 65, 57]⟩⟩ 873), (.str ⟨⟨[61, 65, 65]⟩⟩ 877), (.str ⟨⟨[61, 65, 66]⟩⟩ 881), (.str ⟨⟨[61, 65, 67]⟩⟩ 885), (.str ⟨⟨[61, 65, 68]⟩⟩ 889), (.str ⟨⟨[61, 65, 69]⟩⟩ 893), (.str ⟨⟨[61, 65, 70]⟩⟩ 897), (.str ⟨⟨[61, 66, 48]⟩⟩ 901), (.str ⟨⟨[61, 66, 49]⟩⟩ 905), (.str ⟨⟨[61, 66, 50]⟩⟩ 909), (.str ⟨⟨[61, 66, 51]⟩⟩ 913), (.str ⟨⟨[61, 66, 52]⟩⟩ 917), (.str ⟨⟨[61, 66, 53]⟩⟩ 921), (.str ⟨⟨[61, 66, 54]⟩⟩ 925), (.str ⟨⟨[61, 66, 55]⟩⟩ 929), (.str ⟨⟨[61, 66, 56]⟩⟩ 933), (.str ⟨⟨[61, 66, 57]⟩⟩ 937), (.str ⟨⟨[61, 66, 65]⟩⟩ 941), (.str ⟨⟨[61, 66, 66]⟩⟩ 945), (.str ⟨⟨[61, 66, 67]⟩⟩ 949), (.str ⟨⟨[61, 66, 68]⟩⟩ 953), (.str ⟨⟨[61, 66, 69]⟩⟩ 957), (.str ⟨⟨[61, 66, 70]⟩⟩ 961), (.str ⟨⟨[61, 67, 48]⟩⟩ 965), (.str ⟨⟨[61, 67, 49]⟩⟩ 969), (.str ⟨⟨[61, 67, 50]⟩⟩ 973), (.str ⟨⟨[61, 67, 51]⟩⟩ 977), (.str ⟨⟨[61, 67, 52]⟩⟩ 981), (.str ⟨⟨[61, 67, 53]⟩⟩ 985), (.str ⟨⟨[61, 67, 54]⟩⟩ 989), (.str ⟨⟨[61, 67, 55]⟩⟩ 993), (.str ⟨⟨[61, 67, 56]⟩⟩ 997), (.str ⟨⟨[61, 67, 57]⟩⟩ 1001), (.str ⟨⟨[61, 67, 65]⟩⟩ 1005), (.str ⟨⟨[61, 67, 66]⟩⟩ 1009), (.str ⟨⟨[61, 67, 67]⟩⟩ 1013), (.str ⟨⟨[61, 67, 68]⟩⟩ 1017), (.str ⟨⟨[61, 67, 69]⟩⟩ 1021), (.str ⟨⟨[61, 67, 70]⟩⟩ 1025), (.str ⟨⟨[61, 68, 48]⟩⟩ 1029), (.str ⟨⟨[61, 68, 49]⟩⟩ 1033), (.str ⟨⟨[61, 68, 50]⟩⟩ 1037), (.str ⟨⟨[61, 68, 51]⟩⟩ 1041), (.str ⟨⟨[61, 68, 52]⟩⟩ 1045), (.str ⟨⟨[61, 68, 53]⟩⟩ 1049), (.str ⟨⟨[61, 68, 54]⟩⟩ 1053), (.str ⟨⟨[61, 68, 55]⟩⟩ 1057), (.str ⟨⟨[61, 68, 56]⟩⟩ 1061), (.str ⟨⟨[61, 68, 57]⟩⟩ 1065), (.str ⟨⟨[61, 68, 65]⟩⟩ 1069), (.str ⟨⟨[61, 68, 66]⟩⟩ 1073), (.str ⟨⟨[61, 68, 67]⟩⟩ 1077), (.str ⟨⟨[61, 68, 68]⟩⟩ 1081), (.str ⟨⟨[61, 68, 69]⟩⟩ 1085), (.str ⟨⟨[61, 68, 70]⟩⟩ 1089), (.str ⟨⟨[61, 69, 48]⟩⟩ 1093), (.str ⟨⟨[61, 69, 49]⟩⟩ 1097), (.str ⟨⟨[61, 69, 50]⟩⟩ 1101), (.str ⟨⟨[61, 69, 51]⟩⟩ 1105), (.str ⟨⟨[61, 69, 52]⟩⟩ 1109), (.str ⟨⟨[61, 69, 53]⟩⟩ 1113), (.str ⟨⟨[61, 69, 54]⟩⟩ 1117), (.str ⟨⟨[61, 69, 55]⟩⟩ 1121), (.str ⟨⟨[61, 69, 56]⟩⟩ 1125), (.str ⟨⟨[61, 69, 57]⟩⟩ 1129), (.str ⟨⟨[61, 69, 65]⟩⟩ 1133), (.str ⟨⟨[61, 69, 66]⟩⟩ 1137), (.str ⟨⟨[61, 69, 67]⟩⟩ 1141), (.str ⟨⟨[61, 69, 68]⟩⟩ 1145), (.str ⟨⟨[61, 69, 69]⟩⟩ 1149), (.str ⟨⟨[61, 69, 70]⟩⟩ 1153), (.str ⟨⟨[61, 70, 48]⟩⟩ 1157), (.str ⟨⟨[61, 70, 49]⟩⟩ 1161), (.str ⟨⟨[61, 70, 50]⟩⟩ 1165), (.str ⟨⟨[61, 70, 51]⟩⟩ 1169), (.str ⟨⟨[61, 70, 52]⟩⟩ 1173), (.str ⟨⟨[61, 70, 53]⟩⟩ 1177), (.str ⟨⟨[61, 70, 54]⟩⟩ 1181), (.str ⟨⟨[61, 70, 55]⟩⟩ 1185), (.str ⟨⟨[61, 70, 56]⟩⟩ 1189), (.str ⟨⟨[61, 70, 57]⟩⟩ 1193), (.str ⟨⟨[61, 70, 65]⟩⟩ 1197), (.str ⟨⟨[61, 70, 66]⟩⟩ 1201), (.str ⟨⟨[61, 70, 67]⟩⟩ 1205), (.str ⟨⟨[61, 70, 68]⟩⟩ 1209), (.str ⟨⟨[61, 70, 69]⟩⟩ 1213), (.str ⟨⟨[61, 70, 70]⟩⟩ 1217)] 0) #[])
noncomputable def o3_28 (p : Cq) (P : Params) : Obj := (@PySem.Obj.mk (@PySem.Value.type "bytes_iterator") none (@PySem.Data.fields #[PySem.Value.none, (.int 95 0)]) #[])
noncomputable def o3_29 (p : Cq) (P : Params) : Obj := (@PySem.Obj.mk (@PySem.Value.type "tuple") none (@PySem.Data.seq #[] 0) #[])
noncomputable def o3_30 (p : Cq) (P : Params) : Obj := (@PySem.Obj.mk (@PySem.Value.type "StopIteration") none (@PySem.Data.fields #[(.ref 29), PySem.Value.none, PySem.Value.none, PySem.Value.none, (@PySem.Value.bool Bool.false), PySem.Value.none]) #[])
noncomputable def tr3q (p : Cq) (P : Params) : BT := (.node (p.z P) (.node (PySem.W.boot_o_1 P) (.node (o3_3 p P) (.node (PySem.W.boot_o_7 P) (.node (o1_15 p P) .nil .nil) (.node (o2_23 p P) .nil .nil)) (.node (o0_11 p P) (.node (o1_19 p P) .nil .nil) (.node (o2_27 p P) .nil .nil))) (.node (PySem.W.boot_o_5 P) (.node (PySem.W.boot_o_9 P) (.node (o1_17 p P) .nil .nil) (.node (o2_25 p P) .nil .nil)) (.node (o0_13 p P) (.node (o2_21 p P) .nil .nil) (.node (o3_29 p P) .nil .nil)))) (.node (PySem.W.boot_o_2 P) (.node (PySem.W.boot_o_4 P) (.node (PySem.W.boot_o_8 P) (.node (o1_16 p P) .nil .nil) (.node (o3_24 p P) .nil .nil)) (.node (o0_12 p P) (.node (o1_20 p P) .nil .nil) (.node (o3_28 p P) .nil .nil))) (.node (PySem.W.boot_o_6 P) (.node (PySem.W.boot_o_10 P) (.node (o1_18 p P) .nil .nil) (.node (o2_26 p P) .nil .nil)) (.node (o0_14 p P) (.node (o3_22 p P) .nil .nil) (.node (o3_30 p P) .nil .nil)))))
noncomputable def st3 (p : Cx) (w : World) (os : OsState) : SharedT := ⟨p.t3 w.params, 31, lf, #[], boot_drawn, 1733, os⟩
noncomputable def ps3 : Pos := (@PySem.Pos.mk 15 9 15 110)
noncomputable def o4_3 (p : Cq) (P : Params) : Obj := (@PySem.Obj.mk (@PySem.Value.type "dict") none (@PySem.Data.dict #[⟨(@PySem.PyData.keyHash P ⟨⟨[95, 95, 110, 97, 109, 101, 95, 95]⟩⟩), (.str ⟨⟨[95, 95, 110, 97, 109, 101, 95, 95]⟩⟩ 165), (.str ⟨⟨[108, 97, 119, 95, 113, 117, 48, 48, 50, 57, 95, 48, 49]⟩⟩ 1801)⟩, ⟨(@PySem.PyData.keyHash P ⟨⟨[95, 95, 100, 111, 99, 95, 95]⟩⟩), (.str ⟨⟨[95, 95, 100, 111, 99, 95, 95]⟩⟩ 166), PySem.Value.none⟩, ⟨(@PySem.PyData.keyHash P ⟨⟨[95, 95, 112, 97, 99, 107, 97, 103, 101, 95, 95]⟩⟩), (.str ⟨⟨[95, 95, 112, 97, 99, 107, 97, 103, 101, 95, 95]⟩⟩ 167), PySem.Value.none⟩, ⟨(@PySem.PyData.keyHash P ⟨⟨[95, 95, 108, 111, 97, 100, 101, 114, 95, 95]⟩⟩), (.str ⟨⟨[95, 95, 108, 111, 97, 100, 101, 114, 95, 95]⟩⟩ 168), (@PySem.Value.builtin "__main__.__loader__#opaque")⟩, ⟨(@PySem.PyData.keyHash P ⟨⟨[95, 95, 115, 112, 101, 99, 95, 95]⟩⟩), (.str ⟨⟨[95, 95, 115, 112, 101, 99, 95, 95]⟩⟩ 169), PySem.Value.none⟩, ⟨(@PySem.PyData.keyHash P ⟨⟨[95, 95, 97, 110, 110, 111, 116, 97, 116, 105, 111, 110, 115, 95, 95]⟩⟩), (.str ⟨⟨[95, 95, 97, 110, 110, 111, 116, 97, 116, 105, 111, 110, 115, 95, 95]⟩⟩ 170), (.ref 6)⟩, ⟨(@PySem.PyData.keyHash P ⟨⟨[95, 95, 98, 117, 105, 108, 116, 105, 110, 115, 95, 95]⟩⟩), (.str ⟨⟨[95, 95, 98, 117, 105, 108, 116, 105, 110, 115, 95, 95]⟩⟩ 171), (.ref 4)⟩, ⟨(@PySem.PyData.keyHash P ⟨⟨[95, 95, 102, 105, 108, 101, 95, 95]⟩⟩), (.str ⟨⟨[95, 95, 102, 105, 108, 101, 95, 95]⟩⟩ 173), (.str ⟨⟨[47, 99, 108, 97, 105, 109, 47, 99, 117, 116, 46, 112, 121]⟩⟩ 172)⟩, ⟨(@PySem.PyData.keyHash P ⟨⟨[95, 95, 99, 97, 99, 104, 101, 100, 95, 95]⟩⟩), (.str ⟨⟨[95, 95, 99, 97, 99, 104, 101, 100, 95, 95]⟩⟩ 174), PySem.Value.none⟩, ⟨(@PySem.PyData.keyHash P ⟨⟨[67, 82, 76, 70]⟩⟩), (.str ⟨⟨[67, 82, 76, 70]⟩⟩ 188), (.str ⟨⟨[13, 10]⟩⟩ 187)⟩, ⟨(@PySem.PyData.keyHash P ⟨⟨[78, 76]⟩⟩), (.str ⟨⟨[78, 76]⟩⟩ 190), (.str ⟨⟨[10]⟩⟩ 189)⟩, ⟨(@PySem.PyData.keyHash P ⟨⟨[95, 81, 85, 79, 80, 82, 73, 95, 77, 65, 80]⟩⟩), (.str ⟨⟨[95, 81, 85, 79, 80, 82, 73, 95, 77, 65, 80]⟩⟩ 1218), (.ref 17)⟩, ⟨(@PySem.PyData.keyHash P ⟨⟨[95, 81, 85, 79, 80, 82, 73, 95, 72, 69, 65, 68, 69, 82, 95, 77, 65, 80]⟩⟩), (.str ⟨⟨[95, 81, 85, 79, 80, 82, 73, 95, 72, 69, 65, 68, 69, 82, 95, 77, 65, 80]⟩⟩ 1219), (.ref 22)⟩, ⟨(@PySem.PyData.keyHash P ⟨⟨[95, 81, 85, 79, 80, 82, 73, 95, 66, 79, 68, 89, 95, 77, 65, 80]⟩⟩), (.str ⟨⟨[95, 81, 85, 79, 80, 82, 73, 95, 66, 79, 68, 89, 95, 77, 65, 80]⟩⟩ 1220), (.ref 24)⟩, ⟨(@PySem.PyData.keyHash P ⟨⟨[97, 115, 99, 105, 105, 95, 108, 111, 119, 101, 114, 99, 97, 115, 101]⟩⟩), (.str ⟨⟨[97, 115, 99, 105, 105, 95, 108, 111, 119, 101, 114, 99, 97, 115, 101]⟩⟩ 1222), (.str ⟨⟨[97, 98, 99, 100, 101, 102, 103, 104, 105, 106, 107, 108, 109, 110, 111, 112, 113, 114, 115, 116, 117, 118, 119, 120, 121, 122]⟩⟩ 1221)⟩, ⟨(@PySem.PyData.keyHash P ⟨⟨[97, 115, 99, 105, 105, 95, 117, 112, 112, 101, 114, 99, 97, 115, 101]⟩⟩), (.str ⟨⟨[97, 115, 99, 105, 105, 95, 117, 112, 112, 101, 114, 99, 97, 115, 101]⟩⟩ 1224), (.str ⟨⟨[65, 66, 67, 68, 69, 70, 71, 72, 73, 74, 75, 76, 77, 78, 79, 80, 81, 82, 83, 84, 85, 86, 87, 88, 89, 90]⟩⟩ 1223)⟩, ⟨(@PySem.PyData.keyHash P ⟨⟨[97, 115, 99, 105, 105, 95, 108, 101, 116, 116, 101, 114, 115]⟩⟩), (.str ⟨⟨[97, 115, 99, 105, 105, 95, 108, 101, 116, 116, 101, 114, 115]⟩⟩ 1226), (.str ⟨⟨[97, 98, 99, 100, 101, 102, 103, 104, 105, 106, 107, 108, 109, 110, 111, 112, 113, 114, 115, 116, 117, 118, 119, 120, 121, 122, 65, 66, 67, 68, 69, 70, 71, 72, 73, 74, 75, 76, 77, 78, 79, 80, 81, 82, 83, 84, 85, 86, 87, 88, 89, 90]⟩⟩ 1225)⟩, ⟨(@PySem.PyData.keyHash P ⟨⟨[100, 105, 103, 105, 116, 115]⟩⟩), (.str ⟨⟨[100, 105, 103, 105, 116, 115]⟩⟩ 1228), (.str ⟨⟨[48, 49, 50, 51, 52, 53, 54, 55, 56, 57]⟩⟩ 1227)⟩, ⟨(@PySem.PyData.keyHash P ⟨⟨[104, 101, 120, 100, 105, 103, 105, 116, 115]⟩⟩), (.str ⟨⟨[104, 101, 120, 100, 105, 103, 105, 116, 115]⟩⟩ 1233), (.str ⟨⟨[48, 49, 50, 51, 52, 53, 54, 55, 56, 57, 97, 98, 99, 100, 101, 102, 65, 66, 67, 68, 69, 70]⟩⟩ 1232)⟩, ⟨(@PySem.PyData.keyHash P ⟨⟨[117, 110, 113, 117, 111, 116, 101]⟩⟩), (.str ⟨⟨[117, 110, 113, 117, 111, 116, 101]⟩⟩ 1739), (.ref 37)⟩, ⟨(@PySem.PyData.keyHash P ⟨⟨[113, 117, 111, 116, 101]⟩⟩), (.str ⟨⟨[113, 117, 111, 116, 101]⟩⟩ 1746), (.ref 44)⟩, ⟨(@PySem.PyData.keyHash P ⟨⟨[95, 81, 85, 79, 80, 82, 73, 95, 66, 79, 68, 89, 95, 69, 78, 67, 79, 68, 69, 95, 77, 65, 80]⟩⟩), (.str ⟨⟨[95, 81, 85, 79, 80, 82, 73, 95, 66, 79, 68, 89, 95, 69, 78, 67, 79, 68, 69, 95, 77, 65, 80]⟩⟩ 1747), (.ref 46)⟩, ⟨(@PySem.PyData.keyHash P ⟨⟨[98, 111, 100, 121, 95, 101, 110, 99, 111, 100, 101]⟩⟩), (.str ⟨⟨[98, 111, 100, 121, 95, 101, 110, 99, 111, 100, 101]⟩⟩ 1774), (.ref 57)⟩, ⟨(@PySem.PyData.keyHash P ⟨⟨[100, 101, 99, 111, 100, 101]⟩⟩), (.str ⟨⟨[100, 101, 99, 111, 100, 101]⟩⟩ 1787), (.ref 65)⟩, ⟨(@PySem.PyData.keyHash P ⟨⟨[95, 98, 121, 116, 101, 115, 119, 97, 112]⟩⟩), (.str ⟨⟨[95, 98, 121, 116, 101, 115, 119, 97, 112]⟩⟩ 1800), (.ref 72)⟩, ⟨(@PySem.PyData.keyHash P ⟨⟨[95, 108, 97, 119, 95, 112, 97, 114, 116, 115]⟩⟩), (.str ⟨⟨[95, 108, 97, 119, 95, 112, 97, 114, 116, 115]⟩⟩ 1812), (.ref 79)⟩, ⟨(@PySem.PyData.keyHash P ⟨⟨[95, 108, 97, 119, 95, 104, 111, 111, 107, 115]⟩⟩), (.str ⟨⟨[95, 108, 97, 119, 95, 104, 111, 111, 107, 115]⟩⟩ 1818), (.ref 84)⟩, ⟨(@PySem.PyData.keyHash P ⟨⟨[95, 108, 97, 119, 95, 109, 111, 118, 101, 100]⟩⟩), (.str ⟨⟨[95, 108, 97, 119, 95, 109, 111, 118, 101, 100]⟩⟩ 1824), (.ref 89)⟩, ⟨(@PySem.PyData.keyHash P ⟨⟨[108, 97, 119]⟩⟩), (.str ⟨⟨[108, 97, 119]⟩⟩ 1830), (.ref 94)⟩] 31) #[])
noncomputable def o4_12 (p : Cq) (P : Params) : Obj := (@PySem.Obj.mk PySem.Value.none none (@PySem.Data.fields #[(.int 17 0), (.int 0 0), (.ref 36), (.int 19 0), (.int 0 0), (.ref 43), (.int 25 0), (.int 0 0), (.ref 56), (.int 63 0), (.int 0 0), (.ref 64), (.int 94 0), (.int 0 0), (.ref 71), (.int 101 0), (.int 0 0), (.ref 78), (.int 110 0), (.int 0 0), (.ref 83), (.int 119 0), (.int 0 0), (.ref 88), (.int 136 0), (.int 0 0), (.ref 93)]) #[])
noncomputable def o4_31 (p : Cq) (P : Params) : Obj := (@PySem.Obj.mk (@PySem.Value.type "tuple") none (@PySem.Data.seq #[] 0) #[])
noncomputable def o4_32 (p : Cq) (P : Params) : Obj := (@PySem.Obj.mk PySem.Value.none none (@PySem.Data.fields #[]) #[])
noncomputable def o4_33 (p : Cq) (P : Params) : Obj := (@PySem.Obj.mk (@PySem.Value.type "tuple") none (@PySem.Data.seq #[(.str ⟨⟨[115]⟩⟩ 1736)] 0) #[])
noncomputable def o4_34 (p : Cq) (P : Params) : Obj := (@PySem.Obj.mk (@PySem.Value.type "tuple") none (@PySem.Data.seq #[] 0) #[])
noncomputable def o4_35 (p : Cq) (P : Params) : Obj := ⟨PySem.Value.none, none, .func ⟨⟨⟨[117, 110, 113, 117, 111, 116, 101]⟩⟩, ⟨⟨[117, 110, 113, 117, 111, 116, 101]⟩⟩, (dA p 14).1, .stmts (dA p 14).2.1, (dA p 14).2.2, 0, [], PySem.Value.none, PySem.Value.none, PySem.Value.none, PySem.Value.none, none, PySem.Value.none, PySem.Value.none, 0⟩, #[]⟩
noncomputable def o4_36 (p : Cq) (P : Params) : Obj := (@PySem.Obj.mk (@PySem.Value.type "code") none (@PySem.Data.fields #[(.str ⟨⟨[117, 110, 113, 117, 111, 116, 101]⟩⟩ 1733), (.str ⟨⟨[117, 110, 113, 117, 111, 116, 101]⟩⟩ 1734), (.str ⟨⟨[47, 99, 108, 97, 105, 109, 47, 99, 117, 116, 46, 112, 121]⟩⟩ 1735), (.int 17 0), (.int 1 0), (.int 0 0), (.int 0 0), (.int 3 0), (.ref 31), (@PySem.Value.bool Bool.true), (.int 181 0), (.ref 32), PySem.Value.none, (.ref 33), (.ref 34), (.ref 35), (.int 1737 0), (.int 17 0), (.str ⟨⟨[47, 99, 108, 97, 105, 109, 47, 99, 117, 116, 46, 112, 121]⟩⟩ 1738)]) #[])
noncomputable def o4_37 (p : Cq) (P : Params) : Obj := ⟨(@PySem.Value.type "function"), none, .func ⟨⟨⟨[117, 110, 113, 117, 111, 116, 101]⟩⟩, ⟨⟨[117, 110, 113, 117, 111, 116, 101]⟩⟩, (dA p 14).1, .stmts (dA p 14).2.1, (dA p 14).2.2, 3, [], PySem.Value.none, PySem.Value.none, PySem.Value.none, (.str ⟨⟨[99, 112, 121, 51, 49, 51, 46, 101, 109, 97, 105, 108, 46, 113, 117, 111, 112, 114, 105, 109, 105, 109, 101]⟩⟩ 1234), none, (.ref 36), PySem.Value.none, 0⟩, #[]⟩
noncomputable def o4_38 (p : Cq) (P : Params) : Obj := (@PySem.Obj.mk (@PySem.Value.type "tuple") none (@PySem.Data.seq #[] 0) #[])
noncomputable def o4_39 (p : Cq) (P : Params) : Obj := (@PySem.Obj.mk PySem.Value.none none (@PySem.Data.fields #[]) #[])
noncomputable def o4_40 (p : Cq) (P : Params) : Obj := (@PySem.Obj.mk (@PySem.Value.type "tuple") none (@PySem.Data.seq #[(.str ⟨⟨[99]⟩⟩ 1743)] 0) #[])
noncomputable def o4_41 (p : Cq) (P : Params) : Obj := (@PySem.Obj.mk (@PySem.Value.type "tuple") none (@PySem.Data.seq #[] 0) #[])
noncomputable def o4_42 (p : Cq) (P : Params) : Obj := ⟨PySem.Value.none, none, .func ⟨⟨⟨[113, 117, 111, 116, 101]⟩⟩, ⟨⟨[113, 117, 111, 116, 101]⟩⟩, (dA p 15).1, .stmts (dA p 15).2.1, (dA p 15).2.2, 0, [], PySem.Value.none, PySem.Value.none, PySem.Value.none, PySem.Value.none, none, PySem.Value.none, PySem.Value.none, 0⟩, #[]⟩
noncomputable def o4_43 (p : Cq) (P : Params) : Obj := (@PySem.Obj.mk (@PySem.Value.type "code") none (@PySem.Data.fields #[(.str ⟨⟨[113, 117, 111, 116, 101]⟩⟩ 1740), (.str ⟨⟨[113, 117, 111, 116, 101]⟩⟩ 1741), (.str ⟨⟨[47, 99, 108, 97, 105, 109, 47, 99, 117, 116, 46, 112, 121]⟩⟩ 1742), (.int 19 0), (.int 1 0), (.int 0 0), (.int 0 0), (.int 3 0), (.ref 38), (@PySem.Value.bool Bool.true), (.int 181 0), (.ref 39), PySem.Value.none, (.ref 40), (.ref 41), (.ref 42), (.int 1744 0), (.int 19 0), (.str ⟨⟨[47, 99, 108, 97, 105, 109, 47, 99, 117, 116, 46, 112, 121]⟩⟩ 1745)]) #[])
noncomputable def o4_44 (p : Cq) (P : Params) : Obj := ⟨(@PySem.Value.type "function"), none, .func ⟨⟨⟨[113, 117, 111, 116, 101]⟩⟩, ⟨⟨[113, 117, 111, 116, 101]⟩⟩, (dA p 15).1, .stmts (dA p 15).2.1, (dA p 15).2.2, 3, [], PySem.Value.none, PySem.Value.none, PySem.Value.none, (.str ⟨⟨[99, 112, 121, 51, 49, 51, 46, 101, 109, 97, 105, 108, 46, 113, 117, 111, 112, 114, 105, 109, 105, 109, 101]⟩⟩ 1234), none, (.ref 43), PySem.Value.none, 0⟩, #[]⟩
noncomputable def o4_45 (p : Cq) (P : Params) : Obj := (@PySem.Obj.mk (@PySem.Value.type "slice") none (@PySem.Data.fields #[PySem.Value.none, PySem.Value.none, PySem.Value.none]) #[])
noncomputable def o4_46 (p : Cq) (P : Params) : Obj := (@PySem.Obj.mk (@PySem.Value.type "list") none (@PySem.Data.seq #[(.str ⟨⟨[61, 48, 48]⟩⟩ 197), (.str ⟨⟨[61, 48, 49]⟩⟩ 201), (.str ⟨⟨[61, 48, 50]⟩⟩ 205), (.str ⟨⟨[61, 48, 51]⟩⟩ 209), (.str ⟨⟨[61, 48, 52]⟩⟩ 213), (.str ⟨⟨[61, 48, 53]⟩⟩ 217), (.str ⟨⟨[61, 48, 54]⟩⟩ 221), (.str ⟨⟨[61, 48, 55]⟩⟩ 225), (.str ⟨⟨[61, 48, 56]⟩⟩ 229), (.str ⟨⟨[9]⟩⟩ 1732), (.str ⟨⟨[10]⟩⟩ 1754), (.str ⟨⟨[61, 48, 66]⟩⟩ 241), (.str ⟨⟨[61, 48, 67]⟩⟩ 245), (.str ⟨⟨[13]⟩⟩ 1751), (.str ⟨⟨[61, 48, 69]⟩⟩ 253), (.str ⟨⟨[61, 48, 70]⟩⟩ 257), (.str ⟨⟨[61, 49, 48]⟩⟩ 261), (.str ⟨⟨[61, 49, 49]⟩⟩ 265), (.str ⟨⟨[61, 49, 50]⟩⟩ 269), (.str ⟨⟨[61, 49, 51]⟩⟩ 273), (.str ⟨⟨[61, 49, 52]⟩⟩ 277), (.str ⟨⟨[61, 49, 53]⟩⟩ 281), (.str ⟨⟨[61, 49, 54]⟩⟩ 285), (.str ⟨⟨[61, 49, 55]⟩⟩ 289), (.str ⟨⟨[61, 49, 56]⟩⟩ 293), (.str ⟨⟨[61, 49, 57]⟩⟩ 297), (.str ⟨⟨[61, 49, 65]⟩⟩ 301), (.str ⟨⟨[61, 49, 66]⟩⟩ 305), (.str ⟨⟨[61, 49, 67]⟩⟩ 309), (.str ⟨⟨[61, 49, 68]⟩⟩ 313), (.str ⟨⟨[61, 49, 69]⟩⟩ 317), (.str ⟨⟨[61, 49, 70]⟩⟩ 321), (.str ⟨⟨[32]⟩⟩ 1450), (.str ⟨⟨[33]⟩⟩ 1453), (.str ⟨⟨[34]⟩⟩ 1456), (.str ⟨⟨[35]⟩⟩ 1459), (.str ⟨⟨[36]⟩⟩ 1462), (.str ⟨⟨[37]⟩⟩ 1465), (.str ⟨⟨[38]⟩⟩ 1468), (.str ⟨⟨[39]⟩⟩ 1471), (.str ⟨⟨[40]⟩⟩ 1474), (.str ⟨⟨[41]⟩⟩ 1477), (.str ⟨⟨[42]⟩⟩ 1480), (.str ⟨⟨[43]⟩⟩ 1483), (.str ⟨⟨[44]⟩⟩ 1486), (.str ⟨⟨[45]⟩⟩ 1489), (.str ⟨⟨[46]⟩⟩ 1492), (.str ⟨⟨[47]⟩⟩ 1495), (.str ⟨⟨[48]⟩⟩ 1498), (.str ⟨⟨[49]⟩⟩ 1501), (.str ⟨⟨[50]⟩⟩ 1504), (.str ⟨⟨[51]⟩⟩ 1507), (.str ⟨⟨[52]⟩⟩ 1510), (.str ⟨⟨[53]⟩⟩ 1513), (.str ⟨⟨[54]⟩⟩ 1516), (.str ⟨⟨[55]⟩⟩ 1519), (.str ⟨⟨[56]⟩⟩ 1522), (.str ⟨⟨[57]⟩⟩ 1525), (.str ⟨⟨[58]⟩⟩ 1528), (.str ⟨⟨[59]⟩⟩ 1531), (.str ⟨⟨[60]⟩⟩ 1534), (.str ⟨⟨[61, 51, 68]⟩⟩ 441), (.str ⟨⟨[62]⟩⟩ 1537), (.str ⟨⟨[63]⟩⟩ 1540), (.str ⟨⟨[64]⟩⟩ 1543), (.str ⟨⟨[65]⟩⟩ 1546), (.str ⟨⟨[66]⟩⟩ 1549), (.str ⟨⟨[67]⟩⟩ 1552), (.str ⟨⟨[68]⟩⟩ 1555), (.str ⟨⟨[69]⟩⟩ 1558), (.str ⟨⟨[70]⟩⟩ 1561), (.str ⟨⟨[71]⟩⟩ 1564), (.str ⟨⟨[72]⟩⟩ 1567), (.str ⟨⟨[73]⟩⟩ 1570), (.str ⟨⟨[74]⟩⟩ 1573), (.str ⟨⟨[75]⟩⟩ 1576), (.str ⟨⟨[76]⟩⟩ 1579), (.str ⟨⟨[77]⟩⟩ 1582), (.str ⟨⟨[78]⟩⟩ 1585), (.str ⟨⟨[79]⟩⟩ 1588), (.str ⟨⟨[80]⟩⟩ 1591), (.str ⟨⟨[81]⟩⟩ 1594), (.str ⟨⟨[82]⟩⟩ 1597), (.str ⟨⟨[83]⟩⟩ 1600), (.str ⟨⟨[84]⟩⟩ 1603), (.str ⟨⟨[85]⟩⟩ 1606), (.str ⟨⟨[86]⟩⟩ 1609), (.str ⟨⟨[87]⟩⟩ 1612), (.str ⟨⟨[88]⟩⟩ 1615), (.str ⟨⟨[89]⟩⟩ 1618), (.str ⟨⟨[90]⟩⟩ 1621), (.str ⟨⟨[91]⟩⟩ 1624), (.str ⟨⟨[92]⟩⟩ 1627), (.str ⟨⟨[93]⟩⟩ 1630), (.str ⟨⟨[94]⟩⟩ 1633), (.str ⟨⟨[95]⟩⟩ 1636), (.str ⟨⟨[96]⟩⟩ 1639), (.str ⟨⟨[97]⟩⟩ 1642), (.str ⟨⟨[98]⟩⟩ 1645), (.str ⟨⟨[99]⟩⟩ 1648), (.str ⟨⟨[100]⟩⟩ 1651), (.str ⟨⟨[101]⟩⟩ 1654), (.str ⟨⟨[102]⟩⟩ 1657), (.str ⟨⟨[103]⟩⟩ 1660), (.str ⟨⟨[104]⟩⟩ 1663), (.str ⟨⟨[105]⟩⟩ 1666), (.str ⟨⟨[106]⟩⟩ 1669), (.str ⟨⟨[107]⟩⟩ 1672), (.str ⟨⟨[108]⟩⟩ 1675), (.str ⟨⟨[109]⟩⟩ 1678), (.str ⟨⟨[110]⟩⟩ 1681), (.str ⟨⟨[111]⟩⟩ 1684), (.str ⟨⟨[112]⟩⟩ 1687), (.str ⟨⟨[113]⟩⟩ 1690), (.str ⟨⟨[114]⟩⟩ 1693), (.str ⟨⟨[115]⟩⟩ 1696), (.str ⟨⟨[116]⟩⟩ 1699), (.str ⟨⟨[117]⟩⟩ 1702), (.str ⟨⟨[118]⟩⟩ 1705), (.str ⟨⟨[119]⟩⟩ 1708), (.str ⟨⟨[120]⟩⟩ 1711), (.str ⟨⟨[121]⟩⟩ 1714), (.str ⟨⟨[122]⟩⟩ 1717), (.str ⟨⟨[123]⟩⟩ 1720), (.str ⟨⟨[124]⟩⟩ 1723), (.str ⟨⟨[125]⟩⟩ 1726), (.str ⟨⟨[126]⟩⟩ 1729), (.str ⟨⟨[61, 55, 70]⟩⟩ 705), (.str ⟨⟨[61, 56, 48]⟩⟩ 709), (.str ⟨⟨[61, 56, 49]⟩⟩ 713), (.str ⟨⟨[61, 56, 50]⟩⟩ 717), (.str ⟨⟨[61, 56, 51]⟩⟩ 721), (.str ⟨⟨[61, 56, 52]⟩⟩ 725), (.str ⟨⟨[61, 56, 53]⟩⟩ 729), (.str ⟨⟨[61, 56, 54]⟩⟩ 733), (.str ⟨⟨[61, 56, 55]⟩⟩ 737), (.str ⟨⟨[61, 56, 56]⟩⟩ 741), (.str ⟨⟨[61, 56, 57]⟩⟩ 745), (.str ⟨⟨[61, 56, 65]⟩⟩ 749), (.str ⟨⟨[61, 56, 66]⟩⟩ 753), (.str ⟨⟨[61, 56, 67]⟩⟩ 757), (.str ⟨⟨[61, 56, 68]⟩⟩ 761), (.str ⟨⟨[61, 56, 69]⟩⟩ 765), (.str ⟨⟨[61, 56, 70]⟩⟩ 769), (.str ⟨⟨[61, 57, 48]⟩⟩ 773), (.str ⟨⟨[61, 57, 49]⟩⟩ 777), (.str ⟨⟨[61, 57, 50]⟩⟩ 781), (.str ⟨⟨[61, 57, 51]⟩⟩ 785), (.str ⟨⟨[61, 57, 52]⟩⟩ 789), (.str ⟨⟨[61, 57, 53]⟩⟩ 793), (.str ⟨⟨[61, 57, 54]⟩⟩ 797), (.str ⟨⟨[61, 57, 55]⟩⟩ 801), (.str ⟨⟨[61, 57, 56]⟩⟩ 805), (.str ⟨⟨[61, 57, 57]⟩⟩ 809), (.str ⟨⟨[61, 57, 65]⟩⟩ 813), (.str ⟨⟨[61, 57, 66]⟩⟩ 817), (.str ⟨⟨[61, 57, 67]⟩⟩ 821), (.str ⟨⟨[61, 57, 68]⟩⟩ 825), (.str ⟨⟨[61, 57, 69]⟩⟩ 829), (.str ⟨⟨[61, 57, 70]⟩⟩ 833), (.str ⟨⟨[61, 65, 48]⟩⟩ 837), (.str ⟨⟨[61, 65, 49]⟩⟩ 841), (.str ⟨⟨[61, 65, 50]⟩⟩ 845), (.str ⟨⟨[61, 65, 51]⟩⟩ 849), (.str ⟨⟨[61, 65, 52]⟩⟩ 853), (.str ⟨⟨[61, 65, 53]⟩⟩ 857), (.str ⟨⟨[61, 65, 54]⟩⟩ 861), (.str ⟨⟨[61, 65, 55]⟩⟩ 865), (.str ⟨⟨[61, 65, 56]⟩⟩ 869), (.str ⟨⟨[61, 65, 57]⟩⟩ 873), (.str ⟨⟨[61, 65, 65]⟩⟩ 877), (.str ⟨⟨[61, 65, 66]⟩⟩ 881), (.str ⟨⟨[61, 65, 67]⟩⟩ 885), (.str ⟨⟨[61, 65, 68]⟩⟩ 889), (.str ⟨⟨[61, 65, 69]⟩⟩ 893), (.str ⟨⟨[61, 65, 70]⟩⟩ 897), (.str ⟨⟨[61, 66, 48]⟩⟩ 901), (.str ⟨⟨[61, 66, 49]⟩⟩ 905), (.str ⟨⟨[61, 66, 50]⟩⟩ 909), (.str ⟨⟨[61, 66, 51]⟩⟩ 913), (.str ⟨⟨[61, 66, 52]⟩⟩ 917), (.str ⟨⟨[61, 66, 53]⟩⟩ 921), (.str ⟨⟨[61, 66, 54]⟩⟩ 925), (.str ⟨⟨[61, 66, 55]⟩⟩ 929), (.str ⟨⟨[61, 66, 56]⟩⟩ 933), (.str ⟨⟨[61, 66, 57]⟩⟩ 937), (.str ⟨⟨[61, 66, 65]⟩⟩ 941), (.str ⟨⟨[61, 66, 66]⟩⟩ 945), (.str ⟨⟨[61, 66, 67]⟩⟩ 949), (.str ⟨⟨[61, 66, 68]⟩⟩ 953), (.str ⟨⟨[61, 66, 69]⟩⟩ 957), (.str ⟨⟨[61, 66, 70]⟩⟩ 961), (.str ⟨⟨[61, 67, 48]⟩⟩ 965), (.str ⟨⟨[61, 67, 49]⟩⟩ 969), (.str ⟨⟨[61, 67, 50]⟩⟩ 973), (.str ⟨⟨[61, 67, 51]⟩⟩ 977), (.str ⟨⟨[61, 67, 52]⟩⟩ 981), (.str ⟨⟨[61, 67, 53]⟩⟩ 985), (.str ⟨⟨[61, 67, 54]⟩⟩ 989), (.str ⟨⟨[61, 67, 55]⟩⟩ 993), (.str ⟨⟨[61, 67, 56]⟩⟩ 997), (.str ⟨⟨[61, 67, 57]⟩⟩ 1001), (.str ⟨⟨[61, 67, 65]⟩⟩ 1005), (.str ⟨⟨[61, 67, 66]⟩⟩ 1009), (.str ⟨⟨[61, 67, 67]⟩⟩ 1013), (.str ⟨⟨[61, 67, 68]⟩⟩ 1017), (.str ⟨⟨[61, 67, 69]⟩⟩ 1021), (.str ⟨⟨[61, 67, 70]⟩⟩ 1025), (.str ⟨⟨[61, 68, 48]⟩⟩ 1029), (.str ⟨⟨[61, 68, 49]⟩⟩ 1033), (.str ⟨⟨[61, 68, 50]⟩⟩ 1037), (.str ⟨⟨[61, 68, 51]⟩⟩ 1041), (.str ⟨⟨[61, 68, 52]⟩⟩ 1045), (.str ⟨⟨[61, 68, 53]⟩⟩ 1049), (.str ⟨⟨[61, 68, 54]⟩⟩ 1053), (.str ⟨⟨[61, 68, 55]⟩⟩ 1057), (.str ⟨⟨[61, 68, 56]⟩⟩ 1061), (.str ⟨⟨[61, 68, 57]⟩⟩ 1065), (.str ⟨⟨[61, 68, 65]⟩⟩ 1069), (.str ⟨⟨[61, 68, 66]⟩⟩ 1073), (.str ⟨⟨[61, 68, 67]⟩⟩ 1077), (.str ⟨⟨[61, 68, 68]⟩⟩ 1081), (.str ⟨⟨[61, 68, 69]⟩⟩ 1085), (.str ⟨⟨[61, 68, 70]⟩⟩ 1089), (.str ⟨⟨[61, 69, 48]⟩⟩ 1093), (.str ⟨⟨[61, 69, 49]⟩⟩ 1097), (.str ⟨⟨[61, 69, 50]⟩⟩ 1101), (.str ⟨⟨[61, 69, 51]⟩⟩ 1105), (.str ⟨⟨[61, 69, 52]⟩⟩ 1109), (.str ⟨⟨[61, 69, 53]⟩⟩ 1113), (.str ⟨⟨[61, 69, 54]⟩⟩ 1117), (.str ⟨⟨[61, 69, 55]⟩⟩ 1121), (.str ⟨⟨[61, 69, 56]⟩⟩ 1125), (.str ⟨⟨[61, 69, 57]⟩⟩ 1129), (.str ⟨⟨[61, 69, 65]⟩⟩ 1133), (.str ⟨⟨[61, 69, 66]⟩⟩ 1137), (.str ⟨⟨[61, 69, 67]⟩⟩ 1141), (.str ⟨⟨[61, 69, 68]⟩⟩ 1145), (.str ⟨⟨[61, 69, 69]⟩⟩ 1149), (.str ⟨⟨[61, 69, 70]⟩⟩ 1153), (.str ⟨⟨[61, 70, 48]⟩⟩ 1157), (.str ⟨⟨[61, 70, 49]⟩⟩ 1161), (.str ⟨⟨[61, 70, 50]⟩⟩ 1165), (.str ⟨⟨[61, 70, 51]⟩⟩ 1169), (.str ⟨⟨[61, 70, 52]⟩⟩ 1173), (.str ⟨⟨[61, 70, 53]⟩⟩ 1177), (.str ⟨⟨[61, 70, 54]⟩⟩ 1181), (.str ⟨⟨[61, 70, 55]⟩⟩ 1185), (.str ⟨⟨[61, 70, 56]⟩⟩ 1189), (.str ⟨⟨[61, 70, 57]⟩⟩ 1193), (.str ⟨⟨[61, 70, 65]⟩⟩ 1197), (.str ⟨⟨[61, 70, 66]⟩⟩ 1201), (.str ⟨⟨[61, 70, 67]⟩⟩ 1205), (.str ⟨⟨[61, 70, 68]⟩⟩ 1209), (.str ⟨⟨[61, 70, 69]⟩⟩ 1213), (.str ⟨⟨[61, 70, 70]⟩⟩ 1217)] 0) #[])
noncomputable def o4_47 (p : Cq) (P : Params) : Obj := (@PySem.Obj.mk (@PySem.Value.type "bytes_iterator") none (@PySem.Data.fields #[PySem.Value.none, (.int 2 0)]) #[])
noncomputable def o4_48 (p : Cq) (P : Params) : Obj := (@PySem.Obj.mk (@PySem.Value.type "tuple") none (@PySem.Data.seq #[] 0) #[])
noncomputable def o4_49 (p : Cq) (P : Params) : Obj := (@PySem.Obj.mk (@PySem.Value.type "StopIteration") none (@PySem.Data.fields #[(.ref 48), PySem.Value.none, PySem.Value.none, PySem.Value.none, (@PySem.Value.bool Bool.false), PySem.Value.none]) #[])
noncomputable def o4_50 (p : Cq) (P : Params) : Obj := (@PySem.Obj.mk (@PySem.Value.type "tuple") none (@PySem.Data.seq #[(.int 76 1755), (.str ⟨⟨[10]⟩⟩ 189)] 0) #[])
noncomputable def o4_51 (p : Cq) (P : Params) : Obj := (@PySem.Obj.mk (@PySem.Value.type "tuple") none (@PySem.Data.seq #[] 0) #[])
noncomputable def o4_52 (p : Cq) (P : Params) : Obj := (@PySem.Obj.mk PySem.Value.none none (@PySem.Data.fields #[]) #[])
noncomputable def o4_53 (p : Cq) (P : Params) : Obj := (@PySem.Obj.mk (@PySem.Value.type "tuple") none (@PySem.Data.seq #[(.str ⟨⟨[98, 111, 100, 121]⟩⟩ 1759), (.str ⟨⟨[109, 97, 120, 108, 105, 110, 101, 108, 101, 110]⟩⟩ 1760), (.str ⟨⟨[101, 111, 108]⟩⟩ 1761), (.str ⟨⟨[115, 111, 102, 116, 95, 98, 114, 101, 97, 107]⟩⟩ 1762), (.str ⟨⟨[109, 97, 120, 108, 105, 110, 101, 108, 101, 110, 49]⟩⟩ 1763), (.str ⟨⟨[101, 110, 99, 111, 100, 101, 100, 95, 98, 111, 100, 121]⟩⟩ 1764), (.str ⟨⟨[97, 112, 112, 101, 110, 100]⟩⟩ 1765), (.str ⟨⟨[108, 105, 110, 101]⟩⟩ 1766), (.str ⟨⟨[115, 116, 97, 114, 116]⟩⟩ 1767), (.str ⟨⟨[108, 97, 115, 116, 115, 116, 97, 114, 116]⟩⟩ 1768), (.str ⟨⟨[115, 116, 111, 112]⟩⟩ 1769), (.str ⟨⟨[114, 111, 111, 109]⟩⟩ 1770), (.str ⟨⟨[113]⟩⟩ 1771)] 0) #[])
noncomputable def o4_54 (p : Cq) (P : Params) : Obj := (@PySem.Obj.mk (@PySem.Value.type "tuple") none (@PySem.Data.seq #[] 0) #[])
noncomputable def o4_55 (p : Cq) (P : Params) : Obj := ⟨PySem.Value.none, none, .func ⟨⟨⟨[98, 111, 100, 121, 95, 101, 110, 99, 111, 100, 101]⟩⟩, ⟨⟨[98, 111, 100, 121, 95, 101, 110, 99, 111, 100, 101]⟩⟩, (dA p 19).1, .stmts (dA p 19).2.1, (dA p 19).2.2, 0, [], PySem.Value.none, PySem.Value.none, PySem.Value.none, PySem.Value.none, none, PySem.Value.none, PySem.Value.none, 0⟩, #[]⟩
noncomputable def o4_56 (p : Cq) (P : Params) : Obj := (@PySem.Obj.mk (@PySem.Value.type "code") none (@PySem.Data.fields #[(.str ⟨⟨[98, 111, 100, 121, 95, 101, 110, 99, 111, 100, 101]⟩⟩ 1756), (.str ⟨⟨[98, 111, 100, 121, 95, 101, 110, 99, 111, 100, 101]⟩⟩ 1757), (.str ⟨⟨[47, 99, 108, 97, 105, 109, 47, 99, 117, 116, 46, 112, 121]⟩⟩ 1758), (.int 25 0), (.int 3 0), (.int 0 0), (.int 0 0), (.int 3 0), (.ref 51), (@PySem.Value.bool Bool.true), (.int 181 0), (.ref 52), PySem.Value.none, (.ref 53), (.ref 54), (.ref 55), (.int 1772 0), (.int 25 0), (.str ⟨⟨[47, 99, 108, 97, 105, 109, 47, 99, 117, 116, 46, 112, 121]⟩⟩ 1773)]) #[])
noncomputable def o4_57 (p : Cq) (P : Params) : Obj := ⟨(@PySem.Value.type "function"), none, .func ⟨⟨⟨[98, 111, 100, 121, 95, 101, 110, 99, 111, 100, 101]⟩⟩, ⟨⟨[98, 111, 100, 121, 95, 101, 110, 99, 111, 100, 101]⟩⟩, (dA p 19).1, .stmts (dA p 19).2.1, (dA p 19).2.2, 3, [], (.ref 50), PySem.Value.none, PySem.Value.none, (.str ⟨⟨[99, 112, 121, 51, 49, 51, 46, 101, 109, 97, 105, 108, 46, 113, 117, 111, 112, 114, 105, 109, 105, 109, 101]⟩⟩ 1234), none, (.ref 56), PySem.Value.none, 0⟩, #[]⟩
noncomputable def o4_58 (p : Cq) (P : Params) : Obj := (@PySem.Obj.mk (@PySem.Value.type "tuple") none (@PySem.Data.seq #[(.str ⟨⟨[10]⟩⟩ 189)] 0) #[])
noncomputable def o4_59 (p : Cq) (P : Params) : Obj := (@PySem.Obj.mk (@PySem.Value.type "tuple") none (@PySem.Data.seq #[] 0) #[])
noncomputable def o4_60 (p : Cq) (P : Params) : Obj := (@PySem.Obj.mk PySem.Value.none none (@PySem.Data.fields #[]) #[])
noncomputable def o4_61 (p : Cq) (P : Params) : Obj := (@PySem.Obj.mk (@PySem.Value.type "tuple") none (@PySem.Data.seq #[(.str ⟨⟨[101, 110, 99, 111, 100, 101, 100]⟩⟩ 1778), (.str ⟨⟨[101, 111, 108]⟩⟩ 1779), (.str ⟨⟨[100, 101, 99, 111, 100, 101, 100]⟩⟩ 1780), (.str ⟨⟨[108, 105, 110, 101]⟩⟩ 1781), (.str ⟨⟨[105]⟩⟩ 1782), (.str ⟨⟨[110]⟩⟩ 1783), (.str ⟨⟨[99]⟩⟩ 1784)] 0) #[])
noncomputable def o4_62 (p : Cq) (P : Params) : Obj := (@PySem.Obj.mk (@PySem.Value.type "tuple") none (@PySem.Data.seq #[] 0) #[])
noncomputable def o4_63 (p : Cq) (P : Params) : Obj := ⟨PySem.Value.none, none, .func ⟨⟨⟨[100, 101, 99, 111, 100, 101]⟩⟩, ⟨⟨[100, 101, 99, 111, 100, 101]⟩⟩, (dA p 20).1, .stmts (dA p 20).2.1, (dA p 20).2.2, 0, [], PySem.Value.none, PySem.Value.none, PySem.Value.none, PySem.Value.none, none, PySem.Value.none, PySem.Value.none, 0⟩, #[]⟩
noncomputable def o4_64 (p : Cq) (P : Params) : Obj := (@PySem.Obj.mk (@PySem.Value.type "code") none (@PySem.Data.fields #[(.str ⟨⟨[100, 101, 99, 111, 100, 101]⟩⟩ 1775), (.str ⟨⟨[100, 101, 99, 111, 100, 101]⟩⟩ 1776), (.str ⟨⟨[47, 99, 108, 97, 105, 109, 47, 99, 117, 116, 46, 112, 121]⟩⟩ 1777), (.int 63 0), (.int 2 0), (.int 0 0), (.int 0 0), (.int 3 0), (.ref 59), (@PySem.Value.bool Bool.true), (.int 181 0), (.ref 60), PySem.Value.none, (.ref 61), (.ref 62), (.ref 63), (.int 1785 0), (.int 63 0), (.str ⟨⟨[47, 99, 108, 97, 105, 109, 47, 99, 117, 116, 46, 112, 121]⟩⟩ 1786)]) #[])
noncomputable def o4_65 (p : Cq) (P : Params) : Obj := ⟨(@PySem.Value.type "function"), none, .func ⟨⟨⟨[100, 101, 99, 111, 100, 101]⟩⟩, ⟨⟨[100, 101, 99, 111, 100, 101]⟩⟩, (dA p 20).1, .stmts (dA p 20).2.1, (dA p 20).2.2, 3, [], (.ref 58), PySem.Value.none, PySem.Value.none, (.str ⟨⟨[99, 112, 121, 51, 49, 51, 46, 101, 109, 97, 105, 108, 46, 113, 117, 111, 112, 114, 105, 109, 105, 109, 101]⟩⟩ 1234), none, (.ref 64), PySem.Value.none, 0⟩, #[]⟩
noncomputable def o4_66 (p : Cq) (P : Params) : Obj := (@PySem.Obj.mk (@PySem.Value.type "tuple") none (@PySem.Data.seq #[] 0) #[])
noncomputable def o4_67 (p : Cq) (P : Params) : Obj := (@PySem.Obj.mk PySem.Value.none none (@PySem.Data.fields #[]) #[])
noncomputable def o4_68 (p : Cq) (P : Params) : Obj := (@PySem.Obj.mk (@PySem.Value.type "tuple") none (@PySem.Data.seq #[(.str ⟨⟨[100, 97, 116, 97]⟩⟩ 1793), (.str ⟨⟨[119, 105, 100, 116, 104]⟩⟩ 1794), (.str ⟨⟨[115, 119, 97, 112, 112, 101, 100, 95, 100, 97, 116, 97]⟩⟩ 1795), (.str ⟨⟨[105]⟩⟩ 1796), (.str ⟨⟨[106]⟩⟩ 1797)] 0) #[])
noncomputable def o4_69 (p : Cq) (P : Params) : Obj := (@PySem.Obj.mk (@PySem.Value.type "tuple") none (@PySem.Data.seq #[] 0) #[])
noncomputable def o4_70 (p : Cq) (P : Params) : Obj := ⟨PySem.Value.none, none, .func ⟨⟨⟨[95, 98, 121, 116, 101, 115, 119, 97, 112]⟩⟩, ⟨⟨[95, 98, 121, 116, 101, 115, 119, 97, 112]⟩⟩, (dA p 22).1, .stmts (dA p 22).2.1, (dA p 22).2.2, 0, [], PySem.Value.none, PySem.Value.none, PySem.Value.none, PySem.Value.none, none, PySem.Value.none, PySem.Value.none, 0⟩, #[]⟩
noncomputable def o4_71 (p : Cq) (P : Params) : Obj := (@PySem.Obj.mk (@PySem.Value.type "code") none (@PySem.Data.fields #[(.str ⟨⟨[95, 98, 121, 116, 101, 115, 119, 97, 112]⟩⟩ 1790), (.str ⟨⟨[95, 98, 121, 116, 101, 115, 119, 97, 112]⟩⟩ 1791), (.str ⟨⟨[47, 99, 108, 97, 105, 109, 47, 99, 117, 116, 46, 112, 121]⟩⟩ 1792), (.int 94 0), (.int 2 0), (.int 0 0), (.int 0 0), (.int 3 0), (.ref 66), (@PySem.Value.bool Bool.true), (.int 181 0), (.ref 67), PySem.Value.none, (.ref 68), (.ref 69), (.ref 70), (.int 1798 0), (.int 94 0), (.str ⟨⟨[47, 99, 108, 97, 105, 109, 47, 99, 117, 116, 46, 112, 121]⟩⟩ 1799)]) #[])
noncomputable def o4_72 (p : Cq) (P : Params) : Obj := ⟨(@PySem.Value.type "function"), none, .func ⟨⟨⟨[95, 98, 121, 116, 101, 115, 119, 97, 112]⟩⟩, ⟨⟨[95, 98, 121, 116, 101, 115, 119, 97, 112]⟩⟩, (dA p 22).1, .stmts (dA p 22).2.1, (dA p 22).2.2, 3, [], PySem.Value.none, PySem.Value.none, PySem.Value.none, (.str ⟨⟨[99, 112, 121, 51, 49, 51, 46, 119, 97, 118, 101]⟩⟩ 1788), none, (.ref 71), PySem.Value.none, 0⟩, #[]⟩
noncomputable def o4_73 (p : Cq) (P : Params) : Obj := (@PySem.Obj.mk (@PySem.Value.type "tuple") none (@PySem.Data.seq #[] 0) #[])
noncomputable def o4_74 (p : Cq) (P : Params) : Obj := (@PySem.Obj.mk PySem.Value.none none (@PySem.Data.fields #[]) #[])
noncomputable def o4_75 (p : Cq) (P : Params) : Obj := (@PySem.Obj.mk (@PySem.Value.type "tuple") none (@PySem.Data.seq #[(.str ⟨⟨[116, 101, 120, 116]⟩⟩ 1806), (.str ⟨⟨[112, 97, 114, 116, 115]⟩⟩ 1807), (.str ⟨⟨[112, 111, 105, 110, 116, 115]⟩⟩ 1808), (.str ⟨⟨[115, 105, 103, 110]⟩⟩ 1809)] 0) #[])
noncomputable def o4_76 (p : Cq) (P : Params) : Obj := (@PySem.Obj.mk (@PySem.Value.type "tuple") none (@PySem.Data.seq #[] 0) #[])
noncomputable def o4_77 (p : Cq) (P : Params) : Obj := ⟨PySem.Value.none, none, .func ⟨⟨⟨[95, 108, 97, 119, 95, 112, 97, 114, 116, 115]⟩⟩, ⟨⟨[95, 108, 97, 119, 95, 112, 97, 114, 116, 115]⟩⟩, (dA p 24).1, .stmts (dA p 24).2.1, (dA p 24).2.2, 0, [], PySem.Value.none, PySem.Value.none, PySem.Value.none, PySem.Value.none, none, PySem.Value.none, PySem.Value.none, 0⟩, #[]⟩
noncomputable def o4_78 (p : Cq) (P : Params) : Obj := (@PySem.Obj.mk (@PySem.Value.type "code") none (@PySem.Data.fields #[(.str ⟨⟨[95, 108, 97, 119, 95, 112, 97, 114, 116, 115]⟩⟩ 1803), (.str ⟨⟨[95, 108, 97, 119, 95, 112, 97, 114, 116, 115]⟩⟩ 1804), (.str ⟨⟨[47, 99, 108, 97, 105, 109, 47, 99, 117, 116, 46, 112, 121]⟩⟩ 1805), (.int 101 0), (.int 1 0), (.int 0 0), (.int 0 0), (.int 3 0), (.ref 73), (@PySem.Value.bool Bool.true), (.int 181 0), (.ref 74), PySem.Value.none, (.ref 75), (.ref 76), (.ref 77), (.int 1810 0), (.int 101 0), (.str ⟨⟨[47, 99, 108, 97, 105, 109, 47, 99, 117, 116, 46, 112, 121]⟩⟩ 1811)]) #[])
noncomputable def o4_79 (p : Cq) (P : Params) : Obj := ⟨(@PySem.Value.type "function"), none, .func ⟨⟨⟨[95, 108, 97, 119, 95, 112, 97, 114, 116, 115]⟩⟩, ⟨⟨[95, 108, 97, 119, 95, 112, 97, 114, 116, 115]⟩⟩, (dA p 24).1, .stmts (dA p 24).2.1, (dA p 24).2.2, 3, [], PySem.Value.none, PySem.Value.none, PySem.Value.none, (.str ⟨⟨[108, 97, 119, 95, 113, 117, 48, 48, 50, 57, 95, 48, 49]⟩⟩ 1801), none, (.ref 78), PySem.Value.none, 0⟩, #[]⟩
noncomputable def o4_80 (p : Cq) (P : Params) : Obj := (@PySem.Obj.mk (@PySem.Value.type "tuple") none (@PySem.Data.seq #[] 0) #[])
noncomputable def o4_81 (p : Cq) (P : Params) : Obj := (@PySem.Obj.mk PySem.Value.none none (@PySem.Data.fields #[]) #[])
noncomputable def o4_82 (p : Cq) (P : Params) : Obj := ⟨PySem.Value.none, none, .func ⟨⟨⟨[95, 108, 97, 119, 95, 104, 111, 111, 107, 115]⟩⟩, ⟨⟨[95, 108, 97, 119, 95, 104, 111, 111, 107, 115]⟩⟩, (dA p 25).1, .stmts (dA p 25).2.1, (dA p 25).2.2, 0, [], PySem.Value.none, PySem.Value.none, PySem.Value.none, PySem.Value.none, none, PySem.Value.none, PySem.Value.none, 0⟩, #[]⟩
noncomputable def o4_83 (p : Cq) (P : Params) : Obj := (@PySem.Obj.mk (@PySem.Value.type "code") none (@PySem.Data.fields #[(.str ⟨⟨[95, 108, 97, 119, 95, 104, 111, 111, 107, 115]⟩⟩ 1813), (.str ⟨⟨[95, 108, 97, 119, 95, 104, 111, 111, 107, 115]⟩⟩ 1814), (.str ⟨⟨[47, 99, 108, 97, 105, 109, 47, 99, 117, 116, 46, 112, 121]⟩⟩ 1815), (.int 110 0), (.int 1 0), (.int 0 0), (.int 0 0), (.int 3 0), (.ref 80), (@PySem.Value.bool Bool.true), (.int 181 0), (.ref 81), PySem.Value.none, PySem.Value.none, PySem.Value.none, (.ref 82), (.int 1816 0), (.int 110 0), (.str ⟨⟨[47, 99, 108, 97, 105, 109, 47, 99, 117, 116, 46, 112, 121]⟩⟩ 1817)]) #[])
noncomputable def o4_84 (p : Cq) (P : Params) : Obj := ⟨(@PySem.Value.type "function"), none, .func ⟨⟨⟨[95, 108, 97, 119, 95, 104, 111, 111, 107, 115]⟩⟩, ⟨⟨[95, 108, 97, 119, 95, 104, 111, 111, 107, 115]⟩⟩, (dA p 25).1, .stmts (dA p 25).2.1, (dA p 25).2.2, 3, [], PySem.Value.none, PySem.Value.none, PySem.Value.none, (.str ⟨⟨[108, 97, 119, 95, 113, 117, 48, 48, 50, 57, 95, 48, 49]⟩⟩ 1801), none, (.ref 83), PySem.Value.none, 0⟩, #[]⟩
noncomputable def o4_85 (p : Cq) (P : Params) : Obj := (@PySem.Obj.mk (@PySem.Value.type "tuple") none (@PySem.Data.seq #[] 0) #[])
noncomputable def o4_86 (p : Cq) (P : Params) : Obj := (@PySem.Obj.mk PySem.Value.none none (@PySem.Data.fields #[]) #[])
noncomputable def o4_87 (p : Cq) (P : Params) : Obj := ⟨PySem.Value.none, none, .func ⟨⟨⟨[95, 108, 97, 119, 95, 109, 111, 118, 101, 100]⟩⟩, ⟨⟨[95, 108, 97, 119, 95, 109, 111, 118, 101, 100]⟩⟩, (dA p 26).1, .stmts (dA p 26).2.1, (dA p 26).2.2, 0, [], PySem.Value.none, PySem.Value.none, PySem.Value.none, PySem.Value.none, none, PySem.Value.none, PySem.Value.none, 0⟩, #[]⟩
noncomputable def o4_88 (p : Cq) (P : Params) : Obj := (@PySem.Obj.mk (@PySem.Value.type "code") none (@PySem.Data.fields #[(.str ⟨⟨[95, 108, 97, 119, 95, 109, 111, 118, 101, 100]⟩⟩ 1819), (.str ⟨⟨[95, 108, 97, 119, 95, 109, 111, 118, 101, 100]⟩⟩ 1820), (.str ⟨⟨[47, 99, 108, 97, 105, 109, 47, 99, 117, 116, 46, 112, 121]⟩⟩ 1821), (.int 119 0), (.int 3 0), (.int 0 0), (.int 0 0), (.int 3 0), (.ref 85), (@PySem.Value.bool Bool.true), (.int 181 0), (.ref 86), PySem.Value.none, PySem.Value.none, PySem.Value.none, (.ref 87), (.int 1822 0), (.int 119 0), (.str ⟨⟨[47, 99, 108, 97, 105, 109, 47, 99, 117, 116, 46, 112, 121]⟩⟩ 1823)]) #[])
noncomputable def o4_89 (p : Cq) (P : Params) : Obj := ⟨(@PySem.Value.type "function"), none, .func ⟨⟨⟨[95, 108, 97, 119, 95, 109, 111, 118, 101, 100]⟩⟩, ⟨⟨[95, 108, 97, 119, 95, 109, 111, 118, 101, 100]⟩⟩, (dA p 26).1, .stmts (dA p 26).2.1, (dA p 26).2.2, 3, [], PySem.Value.none, PySem.Value.none, PySem.Value.none, (.str ⟨⟨[108, 97, 119, 95, 113, 117, 48, 48, 50, 57, 95, 48, 49]⟩⟩ 1801), none, (.ref 88), PySem.Value.none, 0⟩, #[]⟩
noncomputable def o4_90 (p : Cq) (P : Params) : Obj := (@PySem.Obj.mk (@PySem.Value.type "tuple") none (@PySem.Data.seq #[] 0) #[])
noncomputable def o4_91 (p : Cq) (P : Params) : Obj := (@PySem.Obj.mk PySem.Value.none none (@PySem.Data.fields #[]) #[])
noncomputable def o4_92 (p : Cq) (P : Params) : Obj := ⟨PySem.Value.none, none, .func ⟨⟨⟨[108, 97, 119]⟩⟩, ⟨⟨[108, 97, 119]⟩⟩, (dA p 27).1, .stmts (dA p 27).2.1, (dA p 27).2.2, 0, [], PySem.Value.none, PySem.Value.none, PySem.Value.none, PySem.Value.none, none, PySem.Value.none, PySem.Value.none, 0⟩, #[]⟩
noncomputable def o4_93 (p : Cq) (P : Params) : Obj := (@PySem.Obj.mk (@PySem.Value.type "code") none (@PySem.Data.fields #[(.str ⟨⟨[108, 97, 119]⟩⟩ 1825), (.str ⟨⟨[108, 97, 119]⟩⟩ 1826), (.str ⟨⟨[47, 99, 108, 97, 105, 109, 47, 99, 117, 116, 46, 112, 121]⟩⟩ 1827), (.int 136 0), (.int 1 0), (.int 0 0), (.int 0 0), (.int 3 0), (.ref 90), (@PySem.Value.bool Bool.true), (.int 181 0), (.ref 91), PySem.Value.none, PySem.Value.none, PySem.Value.none, (.ref 92), (.int 1828 0), (.int 136 0), (.str ⟨⟨[47, 99, 108, 97, 105, 109, 47, 99, 117, 116, 46, 112, 121]⟩⟩ 1829)]) #[])
noncomputable def o4_94 (p : Cq) (P : Params) : Obj := ⟨(@PySem.Value.type "function"), none, .func ⟨⟨⟨[108, 97, 119]⟩⟩, ⟨⟨[108, 97, 119]⟩⟩, (dA p 27).1, .stmts (dA p 27).2.1, (dA p 27).2.2, 3, [], PySem.Value.none, PySem.Value.none, PySem.Value.none, (.str ⟨⟨[108, 97, 119, 95, 113, 117, 48, 48, 50, 57, 95, 48, 49]⟩⟩ 1801), none, (.ref 93), PySem.Value.none, 0⟩, #[]⟩
noncomputable def tr4q (p : Cq) (P : Params) : BT := (.node (p.z P) (.node (PySem.W.boot_o_1 P) (.node (o4_3 p P) (.node (PySem.W.boot_o_7 P) (.node (o1_15 p P) (.node (o4_31 p P) (.node (o4_63 p P) .nil .nil) .nil) (.node (o4_47 p P) (.node (o4_79 p P) .nil .nil) .nil)) (.node (o2_23 p P) (.node (o4_39 p P) (.node (o4_71 p P) .nil .nil) .nil) (.node (o4_55 p P) (.node (o4_87 p P) .nil .nil) .nil))) (.node (o0_11 p P) (.node (o1_19 p P) (.node (o4_35 p P) (.node (o4_67 p P) .nil .nil) .nil) (.node (o4_51 p P) (.node (o4_83 p P) .nil .nil) .nil)) (.node (o2_27 p P) (.node (o4_43 p P) (.node (o4_75 p P) .nil .nil) .nil) (.node (o4_59 p P) (.node (o4_91 p P) .nil .nil) .nil)))) (.node (PySem.W.boot_o_5 P) (.node (PySem.W.boot_o_9 P) (.node (o1_17 p P) (.node (o4_33 p P) (.node (o4_65 p P) .nil .nil) .nil) (.node (o4_49 p P) (.node (o4_81 p P) .nil .nil) .nil)) (.node (o2_25 p P) (.node (o4_41 p P) (.node (o4_73 p P) .nil .nil) .nil) (.node (o4_57 p P) (.node (o4_89 p P) .nil .nil) .nil))) (.node (o0_13 p P) (.node (o2_21 p P) (.node (o4_37 p P) (.node (o4_69 p P) .nil .nil) .nil) (.node (o4_53 p P) (.node (o4_85 p P) .nil .nil) .nil)) (.node (o3_29 p P) (.node (o4_45 p P) (.node (o4_77 p P) .nil .nil) .nil) (.node (o4_61 p P) (.node (o4_93 p P) .nil .nil) .nil))))) (.node (PySem.W.boot_o_2 P) (.node (PySem.W.boot_o_4 P) (.node (PySem.W.boot_o_8 P) (.node (o1_16 p P) (.node (o4_32 p P) (.node (o4_64 p P) .nil .nil) .nil) (.node (o4_48 p P) (.node (o4_80 p P) .nil .nil) .nil)) (.node (o3_24 p P) (.node (o4_40 p P) (.node (o4_72 p P) .nil .nil) .nil) (.node (o4_56 p P) (.node (o4_88 p P) .nil .nil) .nil))) (.node (o4_12 p P) (.node (o1_20 p P) (.node (o4_36 p P) (.node (o4_68 p P) .nil .nil) .nil) (.node (o4_52 p P) (.node (o4_84 p P) .nil .nil) .nil)) (.node (o3_28 p P) (.node (o4_44 p P) (.node (o4_76 p P) .nil .nil) .nil) (.node (o4_60 p P) (.node (o4_92 p P) .nil .nil) .nil)))) (.node (PySem.W.boot_o_6 P) (.node (PySem.W.boot_o_10 P) (.node (o1_18 p P) (.node (o4_34 p P) (.node (o4_66 p P) .nil .nil) .nil) (.node (o4_50 p P) (.node (o4_82 p P) .nil .nil) .nil)) (.node (o2_26 p P) (.node (o4_42 p P) (.node (o4_74 p P) .nil .nil) .nil) (.node (o4_58 p P) (.node (o4_90 p P) .nil .nil) .nil))) (.node (o0_14 p P) (.node (o3_22 p P) (.node (o4_38 p P) (.node (o4_70 p P) .nil .nil) .nil) (.node (o4_54 p P) (.node (o4_86 p P) .nil .nil) .nil)) (.node (o3_30 p P) (.node (o4_46 p P) (.node (o4_78 p P) .nil .nil) .nil) (.node (o4_62 p P) (.node (o4_94 p P) .nil .nil) .nil))))))
noncomputable def hp4q (p : Cq) (P : Params) : Heap := ⟨⟨[p.z P, PySem.W.boot_o_1 P, PySem.W.boot_o_2 P, o4_3 p P, PySem.W.boot_o_4 P, PySem.W.boot_o_5 P, PySem.W.boot_o_6 P, PySem.W.boot_o_7 P, PySem.W.boot_o_8 P, PySem.W.boot_o_9 P, PySem.W.boot_o_10 P, o0_11 p P, o4_12 p P, o0_13 p P, o0_14 p P, o1_15 p P, o1_16 p P, o1_17 p P, o1_18 p P, o1_19 p P, o1_20 p P, o2_21 p P, o3_22 p P, o2_23 p P, o3_24 p P, o2_25 p P, o2_26 p P, o2_27 p P, o3_28 p P, o3_29 p P, o3_30 p P, o4_31 p P, o4_32 p P, o4_33 p P, o4_34 p P, o4_35 p P, o4_36 p P, o4_37 p P, o4_38 p P, o4_39 p P, o4_40 p P, o4_41 p P, o4_42 p P, o4_43 p P, o4_44 p P, o4_45 p P, o4_46 p P, o4_47 p P, o4_48 p P, o4_49 p P, o4_50 p P, o4_51 p P, o4_52 p P, o4_53 p P, o4_54 p P, o4_55 p P, o4_56 p P, o4_57 p P, o4_58 p P, o4_59 p P, o4_60 p P, o4_61 p P, o4_62 p P, o4_63 p P, o4_64 p P, o4_65 p P, o4_66 p P, o4_67 p P, o4_68 p P, o4_69 p P, o4_70 p P, o4_71 p P, o4_72 p P, o4_73 p P, o4_74 p P, o4_75 p P, o4_76 p P, o4_77 p P, o4_78 p P, o4_79 p P, o4_80 p P, o4_81 p P, o4_82 p P, o4_83 p P, o4_84 p P, o4_85 p P, o4_86 p P, o4_87 p P, o4_88 p P, o4_89 p P, o4_90 p P, o4_91 p P, o4_92 p P, o4_93 p P, o4_94 p P]⟩, lf⟩
noncomputable def st4 (p : Cx) (w : World) (os : OsState) : SharedT := ⟨p.t4 w.params, 95, lf, #[], boot_drawn, 1831, os⟩
noncomputable def ps4 : Pos := (@PySem.Pos.mk 136 0 159 47)
noncomputable def hpbq (p : Cq) (P : Params) : Heap := ⟨⟨[p.z P, boot_o_1 P, boot_o_2 P, boot_o_3 P, boot_o_4 P, boot_o_5 P, boot_o_6 P, boot_o_7 P, boot_o_8 P, boot_o_9 P, boot_o_10 P]⟩, lf⟩
noncomputable def o1a_3 (p : Cq) (P : Params) : Obj := (@PySem.Obj.mk (@PySem.Value.type "dict") none (@PySem.Data.dict #[⟨(@PySem.PyData.keyHash P ⟨⟨[95, 95, 110, 97, 109, 101, 95, 95]⟩⟩), (.str ⟨⟨[95, 95, 110, 97, 109, 101, 95, 95]⟩⟩ 165), (.str ⟨⟨[95, 95, 109, 97, 105, 110, 95, 95]⟩⟩ 164)⟩, ⟨(@PySem.PyData.keyHash P ⟨⟨[95, 95, 100, 111, 99, 95, 95]⟩⟩), (.str ⟨⟨[95, 95, 100, 111, 99, 95, 95]⟩⟩ 166), PySem.Value.none⟩, ⟨(@PySem.PyData.keyHash P ⟨⟨[95, 95, 112, 97, 99, 107, 97, 103, 101, 95, 95]⟩⟩), (.str ⟨⟨[95, 95, 112, 97, 99, 107, 97, 103, 101, 95, 95]⟩⟩ 167), PySem.Value.none⟩, ⟨(@PySem.PyData.keyHash P ⟨⟨[95, 95, 108, 111, 97, 100, 101, 114, 95, 95]⟩⟩), (.str ⟨⟨[95, 95, 108, 111, 97, 100, 101, 114, 95, 95]⟩⟩ 168), (@PySem.Value.builtin "__main__.__loader__#opaque")⟩, ⟨(@PySem.PyData.keyHash P ⟨⟨[95, 95, 115, 112, 101, 99, 95, 95]⟩⟩), (.str ⟨⟨[95, 95, 115, 112, 101, 99, 95, 95]⟩⟩ 169), PySem.Value.none⟩, ⟨(@PySem.PyData.keyHash P ⟨⟨[95, 95, 97, 110, 110, 111, 116, 97, 116, 105, 111, 110, 115, 95, 95]⟩⟩), (.str ⟨⟨[95, 95, 97, 110, 110, 111, 116, 97, 116, 105, 111, 110, 115, 95, 95]⟩⟩ 170), (.ref 6)⟩, ⟨(@PySem.PyData.keyHash P ⟨⟨[95, 95, 98, 117, 105, 108, 116, 105, 110, 115, 95, 95]⟩⟩), (.str ⟨⟨[95, 95, 98, 117, 105, 108, 116, 105, 110, 115, 95, 95]⟩⟩ 171), (.ref 4)⟩, ⟨(@PySem.PyData.keyHash P ⟨⟨[95, 95, 102, 105, 108, 101, 95, 95]⟩⟩), (.str ⟨⟨[95, 95, 102, 105, 108, 101, 95, 95]⟩⟩ 173), (.str ⟨⟨[47, 99, 108, 97, 105, 109, 47, 99, 117, 116, 46, 112, 121]⟩⟩ 172)⟩, ⟨(@PySem.PyData.keyHash P ⟨⟨[95, 95, 99, 97, 99, 104, 101, 100, 95, 95]⟩⟩), (.str ⟨⟨[95, 95, 99, 97, 99, 104, 101, 100, 95, 95]⟩⟩ 174), PySem.Value.none⟩, ⟨(@PySem.PyData.keyHash P ⟨⟨[67, 82, 76, 70]⟩⟩), (.str ⟨⟨[67, 82, 76, 70]⟩⟩ 188), (.str ⟨⟨[13, 10]⟩⟩ 187)⟩, ⟨(@PySem.PyData.keyHash P ⟨⟨[78, 76]⟩⟩), (.str ⟨⟨[78, 76]⟩⟩ 190), (.str ⟨⟨[10]⟩⟩ 189)⟩] 11) #[])
noncomputable def oa_16 (n : Nat) : Obj := (@PySem.Obj.mk (@PySem.Value.type "range_iterator") none (@PySem.Data.fields #[(.int n 0), (.int ((256 - n : Nat) : Int) 0), (.int 1 0)]) #[])
noncomputable def oa_17 (p : Cq) (P : Params) (n : Nat) : Obj := (@PySem.Obj.mk (@PySem.Value.type "list") none (@PySem.Data.seq ⟨(match (o1_17 p P).data with | .seq xs _ => xs.toList | _ => []).take n⟩ n) #[])
noncomputable def oa_18 (P : Params) (n : Nat) : Obj := (@PySem.Obj.mk (@PySem.Value.type "dict") none (@PySem.Data.dict #[⟨(@PySem.PyData.keyHash P ⟨⟨[99]⟩⟩), (.str ⟨⟨[99]⟩⟩ 195), (.int ((n - 1 : Nat) : Int) (190 + 4 * n))⟩] 1) #[])
noncomputable def tnq (p : Cq) (n : Nat) (P : Params) : BT := (.node (p.z P) (.node (PySem.W.boot_o_1 P) (.node (o1a_3 p P) (.node (PySem.W.boot_o_7 P) (.node (o1_15 p P) .nil .nil) .nil) (.node (o0_11 p P) .nil .nil)) (.node (PySem.W.boot_o_5 P) (.node (PySem.W.boot_o_9 P) (.node (oa_17 p P n) .nil .nil) .nil) (.node (o0_13 p P) .nil .nil))) (.node (PySem.W.boot_o_2 P) (.node (PySem.W.boot_o_4 P) (.node (PySem.W.boot_o_8 P) (.node (oa_16 n) .nil .nil) .nil) (.node (o0_12 p P) .nil .nil)) (.node (PySem.W.boot_o_6 P) (.node (PySem.W.boot_o_10 P) (.node (oa_18 P n) .nil .nil) .nil) (.node (o0_14 p P) .nil .nil))))
noncomputable def pc : Cx := ⟨pw, tr0q qc, tr1q qc, tr2q qc, tr3q qc, tr4q qc, hpbq qc, hp0q qc, hp4q qc, tnq qc⟩
noncomputable def hp4 (p : Cx) (P : Params) : Heap := p.h4 P
noncomputable def hp0 (p : Cx) (P : Params) : Heap := p.h0 P
noncomputable def hpb (p : Cx) (P : Params) : Heap := p.hb P
noncomputable def bd (p : Cx) : List Stmt := behindTheImports p.pr
noncomputable def envT (p : Cx) : Env := { scope := p.pr.main.scope, locals := mainNs, globals := mainNs, cells := [], code := cdv, frame := some 14 }
noncomputable def cE (p : Cx) : Code := .body (bd p) (envT p)
noncomputable def fr1 : List Frame := [topFrame qpos]
noncomputable def sts1 (p : Cx) : List Stmt := ((bd p).drop 0).take 3
noncomputable def sts2 (p : Cx) : List Stmt := ((bd p).drop 3).take 9
noncomputable def sts3 (p : Cx) : List Stmt := ((bd p).drop 12).take 2
noncomputable def sts4 (p : Cx) : List Stmt := ((bd p).drop 14).take 14
noncomputable def preL (p : Cx) (w : World) (os : OsState) : Option (Shared × Thread) := topGo treeTable p.pr w 11 annV 12 ⟨hpb p w.params, Array.mk [], boot_drawn, boot_toks, os⟩ (topStub p.pr)
noncomputable def preR (p : Cx) (w : World) (os : OsState) : Option (Shared × Thread) := some (⟨hp0 p w.params, #[], boot_drawn, 187, os⟩, ⟨denote treeTable (cE p), cE p, ps0, fr1⟩)
lay_quick Mine.preL Mine.preR
theorem pre_q (w : World) (os : OsState) : PySem.W.Fast.tw1435067368052203930 pc w os = PySem.W.Fast.tw17653279219239862775 pc w os := by kernel_rfl
theorem pre_e (w : World) (os : OsState) : preL pc w os = preR pc w os := (congrFun (congrFun (congrFun PySem.W.Fast.te1435067368052203930 pc) w) os).trans ((pre_q w os).trans (congrFun (congrFun (congrFun PySem.W.Fast.te17653279219239862775 pc) w) os).symm)
noncomputable def blkL (p : Cx) (w : World) (os : OsState) : Option (Flow × Shared × Code × Pos) := segRun treeTable p.pr w 11 annV 1 1 ⟨hp0 p w.params, #[], boot_drawn, 187, os⟩ (blockOf (bd p) (envT p) (cE p) ps0 fr1)
noncomputable def blkR (p : Cx) (w : World) (os : OsState) : Option (Flow × Shared × Code × Pos) := some (.next, (st0 p w os).abs, cE p, psB)
lay_quick Mine.blkL Mine.blkR
theorem blk_q (w : World) (os : OsState) : PySem.W.Fast.tw17163393078156831584 pc w os = PySem.W.Fast.tw8616536883710013034 pc w os := by kernel_rfl
theorem blk_e (w : World) (os : OsState) : blkL pc w os = blkR pc w os := (congrFun (congrFun (congrFun PySem.W.Fast.te17163393078156831584 pc) w) os).trans ((blk_q w os).trans (congrFun (congrFun (congrFun PySem.W.Fast.te8616536883710013034 pc) w) os).symm)
noncomputable def mid1 (p : Cx) (w : World) (os : OsState) : SharedT × Thread := match segGoT treeTable p.pr (World.withFollow (World.withFollow w "special-get-raises" false) "comprehension-iter-twice" false) 11 annV 1 119 (st0 p w os) (piecesOf (sts1 p) (envT p) (cE p) psB fr1) with | some x => x | none => (st0 p w os, (piecesOf (sts1 p) (envT p) (cE p) psB fr1))
noncomputable def go1fL (p : Cx) (w : World) (os : OsState) : Option (SharedT × Thread) := segGoT treeTable p.pr (World.withFollow w "comprehension-iter-twice" false) 11 annV 1 119 (st0 p (World.withFollow w "comprehension-iter-twice" false) os) (piecesOf (sts1 p) (envT p) (cE p) psB fr1)
noncomputable def go1fR (p : Cx) (w : World) (os : OsState) : Option (SharedT × Thread) := some (mid1 p (World.withFollow w "comprehension-iter-twice" false) os)
lay_quick Mine.go1fL Mine.go1fR
theorem go1f_qf (w : World) (os : OsState) : PySem.W.Fast.tw4501575684417858958 pc (World.withFollow w "special-get-raises" false) os = PySem.W.Fast.tw5368861174573097370 pc (World.withFollow w "special-get-raises" false) os := by kernel_rfl
theorem go1f_qt (w : World) (os : OsState) : PySem.W.Fast.tw4501575684417858958 pc (World.withFollow w "special-get-raises" true) os = PySem.W.Fast.tw5368861174573097370 pc (World.withFollow w "special-get-raises" true) os := by kernel_rfl
theorem go1f_q (w : World) : ∀ os : OsState, PySem.W.Fast.tw4501575684417858958 pc w os = PySem.W.Fast.tw5368861174573097370 pc w os := byRow2 "special-get-raises" (P := fun w => ∀ os : OsState, PySem.W.Fast.tw4501575684417858958 pc w os = PySem.W.Fast.tw5368861174573097370 pc w os) go1f_qf go1f_qt w
theorem go1f_e (w : World) (os : OsState) : go1fL pc w os = go1fR pc w os := (congrFun (congrFun (congrFun PySem.W.Fast.te4501575684417858958 pc) w) os).trans ((go1f_q w os).trans (congrFun (congrFun (congrFun PySem.W.Fast.te5368861174573097370 pc) w) os).symm)
noncomputable def go1tL (p : Cx) (w : World) (os : OsState) : Option (SharedT × Thread) := segGoT treeTable p.pr (World.withFollow w "comprehension-iter-twice" true) 11 annV 1 109 (st0 p (World.withFollow w "comprehension-iter-twice" true) os) (piecesOf (sts1 p) (envT p) (cE p) psB fr1)
noncomputable def go1tR (p : Cx) (w : World) (os : OsState) : Option (SharedT × Thread) := some (mid1 p (World.withFollow w "comprehension-iter-twice" true) os)
lay_quick Mine.go1tL Mine.go1tR
theorem go1t_qf (w : World) (os : OsState) : PySem.W.Fast.tw2249185093695182371 pc (World.withFollow w "special-get-raises" false) os = PySem.W.Fast.tw5472898449698505934 pc (World.withFollow w "special-get-raises" false) os := by kernel_rfl
theorem go1t_qt (w : World) (os : OsState) : PySem.W.Fast.tw2249185093695182371 pc (World.withFollow w "special-get-raises" true) os = PySem.W.Fast.tw5472898449698505934 pc (World.withFollow w "special-get-raises" true) os := by kernel_rfl
theorem go1t_q (w : World) : ∀ os : OsState, PySem.W.Fast.tw2249185093695182371 pc w os = PySem.W.Fast.tw5472898449698505934 pc w os := byRow2 "special-get-raises" (P := fun w => ∀ os : OsState, PySem.W.Fast.tw2249185093695182371 pc w os = PySem.W.Fast.tw5472898449698505934 pc w os) go1t_qf go1t_qt w
theorem go1t_e (w : World) (os : OsState) : go1tL pc w os = go1tR pc w os := (congrFun (congrFun (congrFun PySem.W.Fast.te2249185093695182371 pc) w) os).trans ((go1t_q w os).trans (congrFun (congrFun (congrFun PySem.W.Fast.te5472898449698505934 pc) w) os).symm)
noncomputable def sN (p : Cx) (w : World) (os : OsState) (n : Nat) : SharedT := ⟨p.tn n w.params, 19, lf, #[], boot_drawn, 194 + 4 * n, os⟩
/-- the thread at the start of a turn of the first comprehension -/
noncomputable def thr (p : Cx) (w : World) (os : OsState) : Thread := match segGoT treeTable p.pr w 11 annV 1 24 (mid1 p w os).1 (mid1 p w os).2 with | some x => x.2 | none => (mid1 p w os).2
noncomputable def c1L (p : Cx) (w : World) (os : OsState) : Option (SharedT × Thread) := segGoT treeTable p.pr w 11 annV 1 2355 (mid1 p w os).1 (mid1 p w os).2
noncomputable def c1R (p : Cx) (w : World) (os : OsState) : Option (SharedT × Thread) := some (sN p w os 65, thr p w os)
lay_quick Mine.c1L Mine.c1R
theorem c1_q (w : World) (os : OsState) : PySem.W.Fast.tw10680150284220383346 pc w os = PySem.W.Fast.tw16907067861725072876 pc w os := by kernel_rfl
theorem c1_e (w : World) (os : OsState) : c1L pc w os = c1R pc w os := (congrFun (congrFun (congrFun PySem.W.Fast.te10680150284220383346 pc) w) os).trans ((c1_q w os).trans (congrFun (congrFun (congrFun PySem.W.Fast.te16907067861725072876 pc) w) os).symm)
noncomputable def c2L (p : Cx) (w : World) (os : OsState) : Option (SharedT × Thread) := segGoT treeTable p.pr w 11 annV 1 2368 (sN p w os 65) (thr p w os)
noncomputable def c2R (p : Cx) (w : World) (os : OsState) : Option (SharedT × Thread) := some (sN p w os 129, thr p w os)
lay_quick Mine.c2L Mine.c2R
theorem c2_q (w : World) (os : OsState) : PySem.W.Fast.tw8596774904865126000 pc w os = PySem.W.Fast.tw9974625241248582075 pc w os := by kernel_rfl
theorem c2_e (w : World) (os : OsState) : c2L pc w os = c2R pc w os := (congrFun (congrFun (congrFun PySem.W.Fast.te8596774904865126000 pc) w) os).trans ((c2_q w os).trans (congrFun (congrFun (congrFun PySem.W.Fast.te9974625241248582075 pc) w) os).symm)
noncomputable def c3L (p : Cx) (w : World) (os : OsState) : Option (SharedT × Thread) := segGoT treeTable p.pr w 11 annV 1 2368 (sN p w os 129) (thr p w os)
noncomputable def c3R (p : Cx) (w : World) (os : OsState) : Option (SharedT × Thread) := some (sN p w os 193, thr p w os)
lay_quick Mine.c3L Mine.c3R
theorem c3_q (w : World) (os : OsState) : PySem.W.Fast.tw13198106529735364083 pc w os = PySem.W.Fast.tw6990226922122924856 pc w os := by kernel_rfl
theorem c3_e (w : World) (os : OsState) : c3L pc w os = c3R pc w os := (congrFun (congrFun (congrFun PySem.W.Fast.te13198106529735364083 pc) w) os).trans ((c3_q w os).trans (congrFun (congrFun (congrFun PySem.W.Fast.te6990226922122924856 pc) w) os).symm)
noncomputable def run1L (p : Cx) (w : World) (os : OsState) : Option (Flow × SharedT × Code × Pos) := segRunT treeTable p.pr w 11 annV 1 2360 (sN p w os 193) (thr p w os)
noncomputable def run1R (p : Cx) (w : World) (os : OsState) : Option (Flow × SharedT × Code × Pos) := some (.next, st1 p w os, cE p, ps1)
lay_quick Mine.run1L
theorem run1_q (w : World) (os : OsState) : PySem.W.Fast.tw5781598541519488009 pc w os = Mine.run1R pc w os := by kernel_rfl
theorem run1_e (w : World) (os : OsState) : run1L pc w os = run1R pc w os := (congrFun (congrFun (congrFun PySem.W.Fast.te5781598541519488009 pc) w) os).trans (run1_q w os)
noncomputable def mid2 (p : Cx) (w : World) (os : OsState) : SharedT × Thread := match segGoT treeTable p.pr (World.withFollow w "special-get-raises" false) 11 annV 1 210 (st1 p w os) (piecesOf (sts2 p) (envT p) (cE p) ps1 fr1) with | some x => x | none => (st1 p w os, (piecesOf (sts2 p) (envT p) (cE p) ps1 fr1))
noncomputable def go2L (p : Cx) (w : World) (os : OsState) : Option (SharedT × Thread) := segGoT treeTable p.pr w 11 annV 1 210 (st1 p w os) (piecesOf (sts2 p) (envT p) (cE p) ps1 fr1)
noncomputable def go2R (p : Cx) (w : World) (os : OsState) : Option (SharedT × Thread) := some (mid2 p w os)
lay_quick Mine.go2L Mine.go2R
theorem go2_qf (w : World) (os : OsState) : PySem.W.Fast.tw266744402120008308 pc (World.withFollow w "special-get-raises" false) os = PySem.W.Fast.tw1457473260662837618 pc (World.withFollow w "special-get-raises" false) os := by kernel_rfl
theorem go2_qt (w : World) (os : OsState) : PySem.W.Fast.tw266744402120008308 pc (World.withFollow w "special-get-raises" true) os = PySem.W.Fast.tw1457473260662837618 pc (World.withFollow w "special-get-raises" true) os := by kernel_rfl
theorem go2_q (w : World) : ∀ os : OsState, PySem.W.Fast.tw266744402120008308 pc w os = PySem.W.Fast.tw1457473260662837618 pc w os := byRow2 "special-get-raises" (P := fun w => ∀ os : OsState, PySem.W.Fast.tw266744402120008308 pc w os = PySem.W.Fast.tw1457473260662837618 pc w os) go2_qf go2_qt w
theorem go2_e (w : World) (os : OsState) : go2L pc w os = go2R pc w os := (congrFun (congrFun (congrFun PySem.W.Fast.te266744402120008308 pc) w) os).trans ((go2_q w os).trans (congrFun (congrFun (congrFun PySem.W.Fast.te1457473260662837618 pc) w) os).symm)
noncomputable def run2L (p : Cx) (w : World) (os : OsState) : Option (Flow × SharedT × Code × Pos) := segRunT treeTable p.pr w 11 annV 1 2999 (mid2 p w os).1 (mid2 p w os).2
noncomputable def run2R (p : Cx) (w : World) (os : OsState) : Option (Flow × SharedT × Code × Pos) := some (.next, st2 p w os, cE p, ps2)
lay_quick Mine.run2L
theorem run2_q (w : World) (os : OsState) : PySem.W.Fast.tw13913640333206457920 pc w os = Mine.run2R pc w os := by kernel_rfl
theorem run2_e (w : World) (os : OsState) : run2L pc w os = run2R pc w os := (congrFun (congrFun (congrFun PySem.W.Fast.te13913640333206457920 pc) w) os).trans (run2_q w os)
noncomputable def mid3 (p : Cx) (w : World) (os : OsState) : SharedT × Thread := match segGoT treeTable p.pr (World.withFollow w "special-get-raises" false) 11 annV 1 110 (st2 p w os) (piecesOf (sts3 p) (envT p) (cE p) ps2 fr1) with | some x => x | none => (st2 p w os, (piecesOf (sts3 p) (envT p) (cE p) ps2 fr1))
noncomputable def go3L (p : Cx) (w : World) (os : OsState) : Option (SharedT × Thread) := segGoT treeTable p.pr w 11 annV 1 110 (st2 p w os) (piecesOf (sts3 p) (envT p) (cE p) ps2 fr1)
noncomputable def go3R (p : Cx) (w : World) (os : OsState) : Option (SharedT × Thread) := some (mid3 p w os)
lay_quick Mine.go3L Mine.go3R
theorem go3_qf (w : World) (os : OsState) : PySem.W.Fast.tw1738251006727757845 pc (World.withFollow w "special-get-raises" false) os = PySem.W.Fast.tw10967664552919652917 pc (World.withFollow w "special-get-raises" false) os := by kernel_rfl
theorem go3_qt (w : World) (os : OsState) : PySem.W.Fast.tw1738251006727757845 pc (World.withFollow w "special-get-raises" true) os = PySem.W.Fast.tw10967664552919652917 pc (World.withFollow w "special-get-raises" true) os := by kernel_rfl
theorem go3_q (w : World) : ∀ os : OsState, PySem.W.Fast.tw1738251006727757845 pc w os = PySem.W.Fast.tw10967664552919652917 pc w os := byRow2 "special-get-raises" (P := fun w => ∀ os : OsState, PySem.W.Fast.tw1738251006727757845 pc w os = PySem.W.Fast.tw10967664552919652917 pc w os) go3_qf go3_qt w
theorem go3_e (w : World) (os : OsState) : go3L pc w os = go3R pc w os := (congrFun (congrFun (congrFun PySem.W.Fast.te1738251006727757845 pc) w) os).trans ((go3_q w os).trans (congrFun (congrFun (congrFun PySem.W.Fast.te10967664552919652917 pc) w) os).symm)
noncomputable def run3L (p : Cx) (w : World) (os : OsState) : Option (Flow × SharedT × Code × Pos) := segRunT treeTable p.pr w 11 annV 1 4217 (mid3 p w os).1 (mid3 p w os).2
noncomputable def run3R (p : Cx) (w : World) (os : OsState) : Option (Flow × SharedT × Code × Pos) := some (.next, st3 p w os, cE p, ps3)
lay_quick Mine.run3L
theorem run3_q (w : World) (os : OsState) : PySem.W.Fast.tw3398694367055054868 pc w os = Mine.run3R pc w os := by kernel_rfl
theorem run3_e (w : World) (os : OsState) : run3L pc w os = run3R pc w os := (congrFun (congrFun (congrFun PySem.W.Fast.te3398694367055054868 pc) w) os).trans (run3_q w os)
noncomputable def run4L (p : Cx) (w : World) (os : OsState) : Option (Flow × SharedT × Code × Pos) := segRunT treeTable p.pr w 11 annV 1 453 (st3 p w os) (piecesOf (sts4 p) (envT p) (cE p) ps3 fr1)
noncomputable def run4R (p : Cx) (w : World) (os : OsState) : Option (Flow × SharedT × Code × Pos) := some (.next, st4 p w os, cE p, ps4)
lay_quick Mine.run4L
theorem run4_qf (w : World) (os : OsState) : PySem.W.Fast.tw18162629034332553515 pc (World.withFollow w "special-get-raises" false) os = Mine.run4R pc (World.withFollow w "special-get-raises" false) os := by kernel_rfl
theorem run4_qt (w : World) (os : OsState) : PySem.W.Fast.tw18162629034332553515 pc (World.withFollow w "special-get-raises" true) os = Mine.run4R pc (World.withFollow w "special-get-raises" true) os := by kernel_rfl
theorem run4_q (w : World) : ∀ os : OsState, PySem.W.Fast.tw18162629034332553515 pc w os = Mine.run4R pc w os := byRow2 "special-get-raises" (P := fun w => ∀ os : OsState, PySem.W.Fast.tw18162629034332553515 pc w os = Mine.run4R pc w os) run4_qf run4_qt w
theorem run4_e (w : World) (os : OsState) : run4L pc w os = run4R pc w os := (congrFun (congrFun (congrFun PySem.W.Fast.te18162629034332553515 pc) w) os).trans (run4_q w os)
noncomputable def finL (p : Cx) (w : World) (os : OsState) : Option Shared := topRun treeTable p.pr w 11 annV 2 (st4 p w os).abs ⟨doneF .next, cE p, ps4, fr1⟩
noncomputable def finR (p : Cx) (w : World) (os : OsState) : Option Shared := some ⟨hp4 p w.params, #[], boot_drawn, 1831, os⟩
lay_quick Mine.finL
theorem fin_q (w : World) (os : OsState) : PySem.W.Fast.tw8888714992180598707 pc w os = Mine.finR pc w os := by kernel_rfl
theorem fin_e (w : World) (os : OsState) : finL pc w os = finR pc w os := (congrFun (congrFun (congrFun PySem.W.Fast.te8888714992180598707 pc) w) os).trans (fin_q w os)
end
end Mine

end
section
open PySem PySem.W PySem.Calls PyProof.Rows
set_option Elab.async false
set_option maxRecDepth 100000
namespace Mine
/-! the head: the pieces as one run -/
section
variable (w : World) (os : OsState)
theorem eta2 {α β : Type} {x : Option (α × β)} {m : α × β} (e : x = some m) : x = some (m.1, m.2) := e
abbrev coRow : String := "comprehension-iter-twice"
theorem go2_u : segGoT treeTable pw w 11 annV 1 210 (st1 pc w os) (piecesOf (sts2 pc) (envT pc) (cE pc) ps1 fr1) = some ((mid2 pc w os).1, (mid2 pc w os).2) := by have e := go2_e w os; unfold go2L go2R at e; exact eta2 e
theorem go3_u : segGoT treeTable pw w 11 annV 1 110 (st2 pc w os) (piecesOf (sts3 pc) (envT pc) (cE pc) ps2 fr1) = some ((mid3 pc w os).1, (mid3 pc w os).2) := by have e := go3_e w os; unfold go3L go3R at e; exact eta2 e
theorem go1f_u : segGoT treeTable pw (w.withFollow coRow false) 11 annV 1 119 (st0 pc (w.withFollow coRow false) os) (piecesOf (sts1 pc) (envT pc) (cE pc) psB fr1) = some ((mid1 pc (w.withFollow coRow false) os).1, (mid1 pc (w.withFollow coRow false) os).2) := by have e := go1f_e w os; unfold go1fL go1fR at e; exact eta2 e
theorem go1t_u : segGoT treeTable pw (w.withFollow coRow true) 11 annV 1 109 (st0 pc (w.withFollow coRow true) os) (piecesOf (sts1 pc) (envT pc) (cE pc) psB fr1) = some ((mid1 pc (w.withFollow coRow true) os).1, (mid1 pc (w.withFollow coRow true) os).2) := by have e := go1t_e w os; unfold go1tL go1tR at e; exact eta2 e
theorem c1_u : segGoT treeTable pw w 11 annV 1 2355 (mid1 pc w os).1 (mid1 pc w os).2 = some (sN pc w os 65, thr pc w os) := by have e := c1_e w os; unfold c1L c1R at e; exact e
theorem c2_u : segGoT treeTable pw w 11 annV 1 2368 (sN pc w os 65) (thr pc w os) = some (sN pc w os 129, thr pc w os) := by have e := c2_e w os; unfold c2L c2R at e; exact e
theorem c3_u : segGoT treeTable pw w 11 annV 1 2368 (sN pc w os 129) (thr pc w os) = some (sN pc w os 193, thr pc w os) := by have e := c3_e w os; unfold c3L c3R at e; exact e
theorem run1_u : segRunT treeTable pw w 11 annV 1 2360 (sN pc w os 193) (thr pc w os) = some (.next, st1 pc w os, cE pc, ps1) := by have e := run1_e w os; unfold run1L run1R at e; exact e
theorem run2_u : segRunT treeTable pw w 11 annV 1 2999 (mid2 pc w os).1 (mid2 pc w os).2 = some (.next, st2 pc w os, cE pc, ps2) := by have e := run2_e w os; unfold run2L run2R at e; exact e
theorem run3_u : segRunT treeTable pw w 11 annV 1 4217 (mid3 pc w os).1 (mid3 pc w os).2 = some (.next, st3 pc w os, cE pc, ps3) := by have e := run3_e w os; unfold run3L run3R at e; exact e
theorem run4_u : segRunT treeTable pw w 11 annV 1 453 (st3 pc w os) (piecesOf (sts4 pc) (envT pc) (cE pc) ps3 fr1) = some (.next, st4 pc w os, cE pc, ps4) := by have e := run4_e w os; unfold run4L run4R at e; exact e
abbrev seg (w : World) (n : Nat) (s : SharedT) (l : List Stmt) (p : Pos) (s' : SharedT) (p' : Pos) : Prop :=
  segRun treeTable pw w 11 annV 1 n s.abs (piecesOf l (envT pc) (cE pc) p [topFrame qpos]) = some (.next, s'.abs, cE pc, p')
theorem seg1f : seg (w.withFollow coRow false) (119 + (2355 + (2368 + (2368 + 2360)))) (st0 pc (w.withFollow coRow false) os) (sts1 pc) psB (st1 pc (w.withFollow coRow false) os) ps1 := seg_go (segGo_of (go1f_u w os)) (seg_go (segGo_of (c1_u _ os)) (seg_go (segGo_of (c2_u _ os)) (seg_go (segGo_of (c3_u _ os)) (segRun_of (run1_u _ os)))))
theorem seg1t : seg (w.withFollow coRow true) (109 + (2355 + (2368 + (2368 + 2360)))) (st0 pc (w.withFollow coRow true) os) (sts1 pc) psB (st1 pc (w.withFollow coRow true) os) ps1 := seg_go (segGo_of (go1t_u w os)) (seg_go (segGo_of (c1_u _ os)) (seg_go (segGo_of (c2_u _ os)) (seg_go (segGo_of (c3_u _ os)) (segRun_of (run1_u _ os)))))
theorem seg2 : seg w (210 + 2999) (st1 pc w os) (sts2 pc) ps1 (st2 pc w os) ps2 := seg_go (segGo_of (go2_u w os)) (segRun_of (run2_u w os))
theorem seg3 : seg w (110 + 4217) (st2 pc w os) (sts3 pc) ps2 (st3 pc w os) ps3 := seg_go (segGo_of (go3_u w os)) (segRun_of (run3_u w os))
theorem seg4 : seg w 453 (st3 pc w os) (sts4 pc) ps3 (st4 pc w os) ps4 := segRun_of (run4_u w os)
theorem fin_u : topRun treeTable pw w 11 annV 2 (st4 pc w os).abs ⟨doneF .next, cE pc, ps4, [topFrame qpos]⟩ = some ⟨hp4 pc w.params, #[], boot_drawn, 1831, os⟩ := by have e := fin_e w os; unfold finL finR at e; exact e
theorem rest_u : topRun treeTable pw w 11 annV (210 + 2999 + (110 + 4217 + (453 + 2))) (st1 pc w os).abs (restOf (sts2 pc ++ (sts3 pc ++ (sts4 pc ++ []))) (envT pc) (cE pc) ps1 [topFrame qpos]) = some ⟨hp4 pc w.params, #[], boot_drawn, 1831, os⟩ :=
  piece_app (seg2 w os) (piece_app (seg3 w os) (piece_app (seg4 w os) (piece_nil (fin_u w os))))
theorem take_drop3 (l : List Stmt) (h : (l.drop 14).length ≤ 14) : l = l.take 3 ++ ((l.drop 3).take 9 ++ ((l.drop 12).take 2 ++ ((l.drop 14).take 14 ++ []))) := by
  have e1 : (l.drop 14).take 14 ++ [] = l.drop 14 := by rw [List.append_nil, List.take_of_length_le h]
  have e2 : (l.drop 12).take 2 ++ l.drop 14 = l.drop 12 := by
    have := List.take_append_drop 2 (l.drop 12); rwa [List.drop_drop] at this
  have e3 : (l.drop 3).take 9 ++ l.drop 12 = l.drop 3 := by
    have := List.take_append_drop 9 (l.drop 3); rwa [List.drop_drop] at this
  rw [e1, e2, e3, List.take_append_drop]
theorem bd_len : ((bd pc).drop 14).length = 14 := by kernel_rfl
theorem bd_parts : bd pc = (sts1 pc ++ (sts2 pc ++ (sts3 pc ++ (sts4 pc ++ [])))) := by
  have := take_drop3 (bd pc) (Nat.le_of_eq bd_len)
  unfold sts1 sts2 sts3 sts4
  rw [List.drop_zero]
  exact this
theorem pre_u : topGo treeTable pw w 11 annV 12 ⟨hpb pc w.params, Array.mk [], boot_drawn, boot_toks, os⟩ (topStub pw) = some (⟨hp0 pc w.params, #[], boot_drawn, 187, os⟩, ⟨denote treeTable (cE pc), cE pc, ps0, [topFrame qpos]⟩) := by
  have e := pre_e w os; unfold preL preR at e; exact e
theorem blk_u : segRun treeTable pw w 11 annV 1 1 ⟨hp0 pc w.params, #[], boot_drawn, 187, os⟩ (blockOf (bd pc) (envT pc) (cE pc) ps0 [topFrame qpos]) = some (.next, (st0 pc w os).abs, cE pc, psB) := by
  have e := blk_e w os; unfold blkL blkR at e; exact e
theorem body_u {n : Nat} (h : seg w n (st0 pc w os) (sts1 pc) psB (st1 pc w os) ps1) :
    topRun treeTable pw w 11 annV (1 + (n + (210 + 2999 + (110 + 4217 + (453 + 2))))) ⟨hp0 pc w.params, #[], boot_drawn, 187, os⟩ ⟨denote treeTable (cE pc), cE pc, ps0, [topFrame qpos]⟩ = some ⟨hp4 pc w.params, #[], boot_drawn, 1831, os⟩ := by
  have k := piece_app h (rest_u w os)
  have k2 : topRun treeTable pw w 11 annV (n + (210 + 2999 + (110 + 4217 + (453 + 2)))) (st0 pc w os).abs (restOf (bd pc) (envT pc) (cE pc) psB [topFrame qpos]) = some ⟨hp4 pc w.params, #[], boot_drawn, 1831, os⟩ :=
    (congrArg (fun l => topRun treeTable pw w 11 annV (n + (210 + 2999 + (110 + 4217 + (453 + 2)))) (st0 pc w os).abs (restOf l (envT pc) (cE pc) psB [topFrame qpos])) bd_parts).trans k
  have c : (cE pc) = Code.body (bd pc) (envT pc) := by unfold cE; rfl
  have b := blk_u w os
  rw [c] at b k2 ⊢
  exact piece_block b k2
theorem top_of {n : Nat} (h : seg w n (st0 pc w os) (sts1 pc) psB (st1 pc w os) ps1) :
    topRun treeTable pw w 11 annV (12 + (1 + (n + (210 + 2999 + (110 + 4217 + (453 + 2)))))) ⟨hpb pc w.params, Array.mk [], boot_drawn, boot_toks, os⟩ (topStub pw) = some ⟨hp4 pc w.params, #[], boot_drawn, 1831, os⟩ :=
  go_top (pre_u w os) (body_u w os h)
theorem boot_is (P : Params) : boot_heap P = hpb pc P := rfl
end
abbrev topB (n : Nat) (w : World) (os : OsState) : Prop := topRun treeTable pw w 11 annV n ⟨hpb pc w.params, Array.mk [], boot_drawn, boot_toks, os⟩ (topStub pw) = some ⟨hp4 pc w.params, #[], boot_drawn, 1831, os⟩
theorem topFuel {a b : Nat} {w : World} {os : OsState} (e : a = b) (h : topB a w os) : topB b w os := e ▸ h
theorem top_f (w : World) (os : OsState) : topB 17574 (w.withFollow coRow false) os := topFuel (a := 12 + (1 + (119 + (2355 + (2368 + (2368 + 2360))) + (210 + 2999 + (110 + 4217 + (453 + 2)))))) (by decide) (top_of _ os (seg1f w os))
theorem top_t (w : World) (os : OsState) : topB 17574 (w.withFollow coRow true) os :=
  topFuel (a := 12 + (1 + (109 + (2355 + (2368 + (2368 + 2360))) + (210 + 2999 + (110 + 4217 + (453 + 2))))) + 10) (by decide) (topRun_mono 10 _ _ _ _ (top_of _ os (seg1t w os)))
theorem top_all (w : World) : ∀ os : OsState, topB 17574 w os := byRow2 coRow (P := fun w => ∀ os : OsState, topB 17574 w os) top_f top_t w
theorem top_boot (w : World) (os : OsState) : topRun treeTable pw w 11 annV 17574 ⟨boot_heap w.params, Array.mk [], boot_drawn, boot_toks, os⟩ (topStub pw) = some ⟨hp4 pc w.params, #[], boot_drawn, 1831, os⟩ := by
  rw [boot_is]; exact top_all w os
end Mine

end
section
open PySem PySem.W PySem.Calls PyProof.Rows
set_option Elab.async false
set_option maxRecDepth 100000
namespace Mine
open Sem (wp)
/-! the join: the caller's thread in the own logic -/
theorem caller_cl : Cl (⟨.builtin "claim.caller" {}, none, none, [], none⟩ : Ctx) := ⟨by decide +kernel, fun x hx => by cases hx⟩
theorem ends_of {prog : Program} {w : World} {t : Sem Fin} {s : Shared} {R : Result → Shared → Prop} (hz : s.asleep)
    (h : wpX (model prog w) callerA t (fun fin s' => ∃ f, fin = .done f ∧ R (.ok f) s' ∧ leftWithCleanup s'.gens = false) s) :
    ∃ n r s' s'', runN (denote table) prog w n s ⟨t, .builtin "claim.caller" {}, default, []⟩ = .halted (outcomeOf r) s' ∧
      schedN (denote table) prog w n (.single s ⟨t, .builtin "claim.caller" {}, default, []⟩) = .halted (outcomeOf r) s' ∧ s'.forget = s''.forget ∧ R r s'' := by
  have hw : Sem.wp (model prog w) ⟨.builtin "claim.caller" {}, none, none, [], none⟩ t (Sem.finPost (model prog w) ⟨.builtin "claim.caller" {}, none, none, [], none⟩ fun r s' => R r s' ∧ leftWithCleanup s'.gens = false)
      (fun e _ s' => R (.error e) s' ∧ leftWithCleanup s'.gens = false) default s := by
    refine Sem.wp_mono (model prog w) _ t (fun fin p' s' h' => ?_) (fun _ _ _ h' => h'.elim) default s (h _ default caller_in caller_cl)
    obtain ⟨f, rfl, hf⟩ := h'
    exact hf
  obtain ⟨n, r, s₁, s₂, hs, hn, hfo, hR⟩ := wp_halts_full (M := model prog w) hz hw
  exact ⟨n, r, s₂, s₁, hn, hs, hfo, hR⟩
theorem And.imp_right' {a b c : Prop} (f : a → b → c) (h : a ∧ b) : a ∧ c := ⟨h.1, f h.1 h.2⟩
theorem from_spec {c : ClaimW} {tree : List Value → Sem Fin} {w : World} {s : Shared} {free : Addr → Prop} {gens : Prop} {kept : Heap → Prop} (hk : ∀ h, kept h) (hz : s.asleep) (hgens : s.gens = #[])
    (spec : ∀ args, c.pre args = true → WData.layableAll args = true → ∀ ord : List DictEntry → List DictEntry, (∀ l, (ord l).Perm l) →
      ∃ vs s₁, layAllW c.records (classAt s.heap) w.params ord args s = some (vs, s₁) ∧
        wpX (model c.prog w) callerA (tree vs) (fun fin s' => ∃ f, fin = .done f ∧ c.Ends s args vs s₁ (.ok f) s' ∧ s'.os = s.os ∧ AllBare s'.gens) s₁) :
    c.CallFrom (fun vs => ⟨tree vs, .builtin "claim.caller" {}, default, []⟩) w free gens kept s := by
  intro args hpre hlay ord hord
  refine (spec args hpre hlay ord hord).imp fun vs => Exists.imp fun s₁ => And.imp_right' fun hlaid hcode => ?_
  have hl := (layAllW_rest _ _ _ hlaid).2.2.2
  obtain ⟨k, r, s', s'', hrun, hsched, hfo, hcase, hos⟩ := ends_of (R := fun r s' => c.Ends s args vs s₁ r s' ∧ s'.os = s.os) (Shared.asleep_of_life hl hz)
    (wpX_mono hcode fun fin s' ⟨f, e, h1, h2, h3⟩ => ⟨f, e, ⟨h1, h2⟩, leftWithCleanup_false_of_bare h3⟩)
  obtain ⟨eh, _, _, eo, _⟩ := Shared.forget_eq hfo
  exact ⟨k, _, s', hsched, (hcase.congr eh).imp
    (Exists.imp fun _ => And.imp (congrArg outcomeOf) (And.imp_right (And.imp_right (And.imp_right (And.imp_left fun d b o y _ => d b o y)))))
    (Exists.imp fun _ => Exists.imp fun _ => Exists.imp fun _ => And.imp (congrArg outcomeOf) (And.imp_right (And.imp_right (And.imp_right (And.imp_right fun d b o y _ => d b o y))))), fun _ i x hx => (by rw [hgens] at hx; cases hx), hk _, by rw [(runN_life _ _ _ hrun).trans hl], Shared.rest_eq (eo.trans hos)⟩
/-! the argument -/
theorem int_has {R : WRecords} {d} (h : WShape.has R d .int = true) : ∃ x, d = .int x := by
  cases d <;> first | exact ⟨_, rfl⟩ | exact Bool.noConfusion (show false = true from h)
theorem list_has {R : WRecords} {d} (h : WShape.has R d (.list .int) = true) : ∃ x, d = .list x ∧ WShape.hasItems R x .int = true := by
  cases d <;> first | exact ⟨_, rfl, (Bool.or_false _).symm.trans h⟩ | exact Bool.noConfusion (show false = true from h)
theorem ints_of {R : WRecords} : ∀ {ds : List WData}, WShape.hasItems R ds .int = true → ∃ xs : List Int, ds = xs.map .int
  | [], _ => ⟨[], rfl⟩
  | d :: ds, h => by
    obtain ⟨h1, h2⟩ := Bool.and_eq_true_iff.mp (show (WShape.has R d .int && WShape.hasItems R ds .int) = true from h)
    obtain ⟨xs, rfl⟩ := ints_of h2
    obtain ⟨x, rfl⟩ := int_has h1
    exact ⟨x :: xs, rfl⟩
theorem lay_ints {R : WRecords} {cl : Str → Option Addr} {P : Params} {ord : List DictEntry → List DictEntry} : ∀ (xs : List Int) (s : Shared),
    ∃ vs, layAllW R cl P ord (xs.map .int) s = some (vs, { s with toks := s.toks + xs.length }) ∧ Are vs (xs.map .int)
  | [], s => ⟨[], rfl, .nil⟩
  | x :: xs, s => by
    obtain ⟨vs, h1, h2⟩ := lay_ints (R := R) (cl := cl) (P := P) (ord := ord) xs { s with toks := s.toks + 1 }
    refine ⟨.int x s.toks :: vs, ?_, .cons rfl h2⟩
    rw [List.map_cons]
    unfold layAllW
    simp only [layW, h1, List.length_cons]
    rw [Nat.add_assoc, Nat.add_comm 1]
end Mine

end
section
open PySem PySem.W PySem.Calls PyProof.Rows
set_option Elab.async false
set_option maxRecDepth 100000
namespace Mine
abbrev pwJ : Program := PySem.Challenge.pw_qu0029_01
noncomputable def qv : Program := view pwJ [0, 1, 2, 3, 4, 5, 6, 7, 8, 9, 14, 15, 16, 22, 24, 25, 26, 27]
noncomputable def lo : List Str := ["_QUOPRI_MAP", "_QUOPRI_HEADER_MAP", "_QUOPRI_BODY_MAP", "ascii_letters", "hexdigits", "_QUOPRI_BODY_ENCODE_MAP", "body_encode", "decode"]
abbrev rr : OpenRow := PySem.Challenge.rw_qu0029_01.row
theorem pre_of {args : List WData} (h : rr.toRowW.claim.pre args = true) : ∃ xs : List Int, args = [.list (xs.map .int)] ∧ xs.length ≤ 1000 := by
  have h : (WShape.hasAll [] args [.list .int] && PySem.Challenge.rw_qu0029_01.pre.holds [] { args := args }) = true := h
  obtain ⟨h1, h2⟩ := Bool.and_eq_true_iff.mp h
  match args, h1, h2 with
  | [], h1, _ => exact Bool.noConfusion (show false = true from h1)
  | [a], h1, h2 =>
    obtain ⟨ds, rfl, h3⟩ := list_has (Bool.and_eq_true_iff.mp (show (WShape.has [] a (.list .int) && WShape.hasAll [] [] []) = true from h1)).1
    obtain ⟨xs, rfl⟩ := ints_of h3
    refine ⟨xs, rfl, Nat.le_of_not_lt fun hn => ?_⟩
    have hl : Num.less? (.int 63) (.int (xs.length : Int)) = some true :=
      congrArg some (decide_eq_true (show (63 : Int) < (xs.length : Int) by lia))
    have e : PySem.Challenge.rw_qu0029_01.pre.value [] { args := [.list (xs.map .int)] } = some (.bool false) := by
      show (WTm.value [] (.and (.not (.lt (.lit (.int 63)) (.len (.arg 0)))) (.lit (.bool true))) { args := [.list (xs.map .int)] }) = some (.bool false)
      simp only [WTm.value, List.getElem?_cons_zero, List.length_map, less?, hl, Option.map_some, Bool.not_true]
    unfold WTm.holds at h2
    rw [e] at h2
    cases h2
  | a :: b :: r, h1, _ =>
    have h1 := (Bool.and_eq_true_iff.mp (show (WShape.has [] a (.list .int) && WShape.hasAll [] (b :: r) []) = true from h1)).2
    exact Bool.noConfusion (show false = true from h1)
theorem post_of (args : List WData) : rr.toRowW.claim.post args (.bool true) args = true := by
  show (WShape.has [] (.bool true) .bool && (WTm.eq .res (.lit (.bool true))).holds [] { args := args, res := some (.bool true), after := args }) = true
  exact Bool.and_eq_true_iff.mpr ⟨rfl, by simp [WTm.holds, WTm.value, same]⟩
end Mine

end
section
open PySem PySem.W PySem.Calls PyProof.Rows
set_option Elab.async false
set_option maxRecDepth 100000
namespace Mine
/-! the head: what the top leaves -/
noncomputable section
noncomputable def seenL (p : Cx) (w : World) (os : OsState) := (staticsOk (importedModules p.pr.main.body) (hpb p w.params) (hp4 p w.params) && namesBound p.pr (hp4 p w.params) && gensDone ⟨hp4 p w.params, #[], boot_drawn, 1831, os⟩ && laidKept (hpb p w.params) (hp4 p w.params))
noncomputable def view0 (p : Cx) : Program := view p.pr [0, 1, 2, 3, 4, 5, 6, 7, 8, 9, 14, 15, 16, 22, 24, 25, 26, 27]
noncomputable def seenA (p : Cx) (w : World) (os : OsState) := openSeen (view0 p) lo (importedModules p.pr.main.body) (fun _ => true) true ⟨hp4 p w.params, #[], boot_drawn, 1831, os⟩
noncomputable def seenB (p : Cx) := openGood (view0 p) lo
noncomputable def sizeL (p : Cx) (w : World) := ((hpb p w.params).isNs mainGlobals && (Array.mk ([] : List GenState)).size == 0, (hpb p w.params).objs.size, (hpb p w.params).nsMap mainGlobals "__annotations__")
noncomputable def bootL (p : Cx) (w : World) := importEnds treeTable (opening p.pr) w 600 (start (opening p.pr)).1 (start (opening p.pr)).2
noncomputable def bootR (p : Cx) (w : World) : Option Shared := some ⟨hpb p w.params, Array.mk [], boot_drawn, boot_toks, (start (opening p.pr)).1.os⟩
lay_quick Mine.seenL Mine.seenA Mine.seenB Mine.sizeL Mine.bootL Mine.bootR
theorem seenL_q (w : World) (os : OsState) : PySem.W.Fast.tw11910991355450864886 pc w os = true := by kernel_rfl
theorem seenA_q (w : World) (os : OsState) : PySem.W.Fast.tw8491237800779615315 pc w os = PySem.W.Fast.tw1806473094882494187 pc := by kernel_rfl
theorem sizeL_q (w : World) : PySem.W.Fast.tw10514693982987533042 pc w = (true, 11, annV) := by kernel_rfl
theorem seenL_e (w : World) (os : OsState) : seenL pc w os = true := (congrFun (congrFun (congrFun PySem.W.Fast.te11910991355450864886 pc) w) os).trans (seenL_q w os)
theorem seenA_e (w : World) (os : OsState) : seenA pc w os = seenB pc := (congrFun (congrFun (congrFun PySem.W.Fast.te8491237800779615315 pc) w) os).trans ((seenA_q w os).trans (congrFun PySem.W.Fast.te1806473094882494187 pc).symm)
theorem sizeL_e (w : World) : sizeL pc w = (true, 11, annV) := (congrFun (congrFun PySem.W.Fast.te10514693982987533042 pc) w).trans (sizeL_q w)
theorem bootL_q (w : World) : PySem.W.Fast.tw12728574027241484741 pc w = PySem.W.Fast.tw4249671962127204351 pc w := by kernel_rfl
theorem bootL_e (w : World) : bootL pc w = bootR pc w := (congrFun (congrFun PySem.W.Fast.te12728574027241484741 pc) w).trans ((bootL_q w).trans (congrFun (congrFun PySem.W.Fast.te4249671962127204351 pc) w).symm)
theorem boot_u (w : World) : importEnds treeTable (opening pw) w 600 (start (opening pw)).1 (start (opening pw)).2 = some ⟨hpb pc w.params, Array.mk [], boot_drawn, boot_toks, (start (opening pw)).1.os⟩ := by
  have e := bootL_e w; unfold bootL bootR at e; exact e
theorem fence_is (s : Shared) : fenceModules? pw s = some s := by kernel_rfl
theorem left_ok : LeftO pw qv lo (fun _ => true) (fun s => (s.heap, s.toks)) (fun w => (hp4 pc w.params, 1831)) 17574 := by
  refine LeftO.of_pieces (H₀ := boot_heap) (H₁ := hp4 pc) (gs₀ := Array.mk []) (gs₁ := #[]) (d₀ := boot_drawn) (d₁ := boot_drawn) (k₀ := boot_toks) (k₁ := 1831) (m₀ := 11) (ann := annV) (M := 17574)
    (open_cut (M := 600) (He := hpb pc) (ge := Array.mk []) (de := boot_drawn) (ke := boot_toks) boot_u (by decide) fun w => funext fun os => by rw [fence_is]; rfl) (fun w => ?_) top_boot (by decide) (fun w => ?_)
  · have e := sizeL_e w
    unfold sizeL at e
    rw [boot_is]
    exact e
  · funext os
    have e1 := seenL_e w os
    have e2 := seenA_e w os
    unfold seenL at e1
    unfold seenA seenB view0 at e2
    rw [boot_is]
    exact Prod.ext e1 (Prod.ext e2 rfl)
end
end Mine

end
section
open PySem PySem.W PySem.Calls PyProof.Rows
set_option Elab.async false
set_option maxRecDepth 100000
namespace Mine
theorem chains_ok : chainsOk qv = true := by kernel_rfl
theorem opens_ok : opensWell pwJ = true := by kernel_rfl
theorem bare_ok : pwJ.bare := ⟨rfl, rfl, rfl, rfl, rfl, by decide +kernel⟩
theorem promised_ok : rr.toRowW.promised := ⟨[.list []], by decide +kernel, by decide +kernel⟩
theorem def_some : (defOf qv "law").isSome = true := by kernel_rfl
theorem def_is : (defOf qv "law").map (fun x => (x.1.params, x.1.body, x.1.scope)) = pwJ.theDef "law" := by kernel_rfl
theorem def_kw : (defOf qv "law").map (fun x => kwWritten? x.1.params.kwonlyargs x.1.params.kw_defaults) = (defOf qv "law").map (fun x => some x.2) := by kernel_rfl
theorem aok_caller : AOk callerA 123 := ⟨rfl, by decide, by decide⟩
theorem wpX_attemptless {prog : Program} {w : World} {A : Around} {s : Shared} {Q : Option Value → Shared → Prop} {a : Addr} {m : Str → Option Value} {n : Str} (hn : s.heap.Ns a m) (h : Q (m n) s) : wpX (model prog w) A (nsGet a n) Q s := .of (wpAny_nsGet hn h)
theorem oldK_of {h h' : Heap} (k : Ext h h') : OldK h h' := ⟨fun b o e => .inl (k b o e), fun b o e => ⟨o, k b o e⟩⟩
theorem join {H : Params → Heap} {N : Nat} (left : LeftO pwJ qv lo (fun _ => true) (fun s => (s.heap, s.toks)) (fun w => (H w.params, 1831)) N)
    (glob : ∀ P, ∃ g, GlobOk g (H P)) (law : ∀ P, FnAt (H P) 94 "law" 27 .none) (name : ∀ P, (H P).nsMap mainGlobals "law" = some (.ref 94)) (k1 : rr.wellSaid = true) : rr.Holds := by
  refine ⟨k1, promised_ok, ?_⟩
  show rr.toRowW.claim.HoldsOpenBy (fun vs => ⟨do match ← nsGet mainNs "law" with
      | some f => do ret (← PySem.call f vs)
      | none => unsupported "claim.caller:no-such-global", .builtin "claim.caller" {}, default, []⟩) ["law"] rr.keeps false
  refine ⟨⟨bare_ok, opens_ok, rfl⟩, promised_ok.witness, fun w => ⟨(left.behind (XP := fun _ _ => True) (fun _ _ => trivial) chains_ok w).1, fun s' hs' => ?_⟩⟩
  obtain ⟨s₀, hf, hg0, s, hT, hz, hgens, hg, G, y⟩ := (left.behind (XP := fun _ _ => True) (fun _ _ => trivial) chains_ok w).2 s' hs'
  have hgens : s.gens = #[] := Array.eq_empty_of_size_eq_zero (beq_iff_eq.mp hgens)
  have yh : s.heap = H w.params := congrArg Prod.fst y
  have yt : s.toks = 1831 := congrArg Prod.snd y
  refine ⟨s₀, hf, hg0, s, hT, fun n hn => ?_, fun x hx => (nomatch hx), fun x hx => (nomatch hx), ?_⟩
  · obtain rfl : n = "law" := by simpa using hn
    obtain ⟨⟨d, kwd⟩, hd⟩ := Option.isSome_iff_exists.mp def_some
    have h1 := def_is
    have h2 := def_kw
    rw [hd] at h1 h2
    exact pinned_of_view hg G hd h1.symm (Option.some.inj h2)
  refine from_spec (fun h q => by cases q) hz hgens fun args hpre hlay ord hord => ?_
  obtain ⟨xs, rfl, hxs⟩ := pre_of hpre
  obtain ⟨vs, hl, ha⟩ := lay_ints (R := []) (cl := classAt s.heap) (P := w.params) (ord := ord) xs s
  let s2 : Shared := { s with heap := s.heap.push { cls := .type "list", data := .seq vs.toArray }, toks := s.toks + xs.length }
  have hlaid : layAllW [] (classAt s.heap) w.params ord [.list (xs.map .int)] s = some ([.ref s.heap.objs.size], s2) := by
    unfold layAllW layW
    rw [hl]
    rfl
  have hext : Ext s.heap s2.heap := Ext.push _ _
  obtain ⟨g, hG⟩ := glob w.params
  have hG2 : GlobOk g s2.heap := (yh ▸ hG : GlobOk g s.heap).ext hext
  have hF2 : FnAt s2.heap 94 "law" 27 .none := (yh ▸ law w.params : FnAt s.heap 94 "law" 27 .none).ext hext
  have hN2 : s2.heap.Ns mainGlobals (s.heap.nsMap mainGlobals) := (Heap.Ns.of_isNs hg).keeps hext
  have hn : s.heap.nsMap mainGlobals "law" = some (.ref 94) := by rw [yh]; exact name w.params
  have hr : Rp none s2.heap (.ref s.heap.objs.size) (.list (xs.map .int)) := .list ⟨0, Heap.get?_push_size _ rfl⟩ ha (fun e => by cases e)
  refine ⟨_, s2, hlaid, wpX_bind (wpX_attemptless hN2 ?_)⟩
  rw [hn]
  refine wpX_bind (wpX_mono (law_sound aok_caller hG2 (by show 1 ≤ s.toks + xs.length; lia) (fun a e => by cases e) hF2 hr hxs) fun v s3 hv => wpX_pure ⟨_, rfl, ?_⟩)
  obtain ⟨rfl, hk⟩ := hv
  obtain ⟨h3, tk, rfl, hk⟩ := hk
  have ht : WShape.has [] (.bool true) .bool = true := rfl
  obtain ⟨as, hrd, hin, hold⟩ := reads_layAllW hord _ _ _ hlaid hlay s2.heap (fun _ _ e => e)
  have L : Laid [] w s s2 [.list (xs.map .int)] [.ref s.heap.objs.size] as := ⟨⟨ord, hord, hlaid⟩, hrd, hin, hold, hext, hgens, rfl⟩
  have z := GoodWG.laid (c := rr.toRowW.claim) rfl rfl (fun a b => ident_freeW rfl rfl rfl a b) L (r := .ok (.ret (.bool true))) (s' := { s2 with heap := h3, toks := tk })
    ⟨.inl ⟨.bool true, .bool true, [], rfl, fun _ => rfl, .bool true, post_of _, fun _ => ⟨List.nodup_nil, fun a ha => by cases ha⟩⟩, oldK_of hk, rfl, .of_eq hgens⟩
  exact ⟨z.1, z.2.1, z.2.2⟩
end Mine

end
section
open PySem PySem.W PySem.Calls PyProof.Rows
set_option Elab.async false
set_option maxRecDepth 100000
namespace Mine
/-! the globals that the top leaves -/
section
variable (P : Params)
noncomputable def strAt (v : Option Value) (q : Str) : Bool := match v with | some (.str x _) => decide (x = q) | _ => false
theorem strAt_ok {v : Option Value} {q : Str} (e : strAt v q = true) : ∃ t, v = some (.str q t) := by
  unfold strAt at e
  split at e <;> try contradiction
  rename_i x t
  cases of_decide_eq_true e
  exact ⟨t, rfl⟩
noncomputable def codeCk (h : Heap) (cd : Value) (q : Str) : Bool := match cd with
  | .ref c => (match h.get? c with
    | some o => (match o.data with
      | .fields vs => strAt vs[1]? q
      | _ => false)
    | none => false)
  | _ => false
theorem codeCk_ok {h : Heap} {cd : Value} {q : Str} (e : codeCk h cd q = true) : h.CodeRec cd q := by
  unfold codeCk at e
  split at e <;> try contradiction
  split at e <;> try contradiction
  split at e <;> try contradiction
  rename_i c _ o ho _ vs hd
  obtain ⟨t, hx⟩ := strAt_ok e
  exact ⟨c, o, vs, t, rfl, ho, hd, hx⟩
noncomputable def fdOf (o : Obj) : FuncData := match o.data with | .func f => f | _ => default
theorem fnAt_of {h : Heap} {a : Addr} {o : Obj} {name : Str} {i : Nat} {dV : Value} (h1 : h.get? a = some o)
    (h2 : o.data = .func { Calls.docDef name (paramsAt i) (bodyAt i) (scopeAt i) (fdOf o).pyModule (fdOf o).code (fdOf o).doc with defaults := dV, kwdefaults := (fdOf o).kwdefaults })
    (h3 : codeCk h (fdOf o).code name = true) : FnAt h a name i dV := ⟨o, _, _, _, _, h1, h2, codeCk_ok h3⟩
noncomputable def strCk (v : Option Value) (l : List Nat) : Bool := match v with | some (.str x _) => decide (x.cps.toList = l) | _ => false
theorem strCk_ok {v : Option Value} {l : List Nat} (e : strCk v l = true) : ∃ t, v = some (.str ⟨l.toArray⟩ t) := by
  unfold strCk at e
  split at e <;> try contradiction
  rename_i x t
  exact ⟨t, by rw [← of_decide_eq_true e]⟩
noncomputable def mapItems : List Value := match (o4_46 qc P).data with | .seq xs _ => xs.toList | _ => []
noncomputable def mapCk (vs : List Value) : Bool := (List.range 127).all fun c => !tame c || c == 61 || (match vs[c]? with | some (.str x _) => decide (x = ⟨#[c]⟩) | _ => false)
theorem mapCk_ok {vs : List Value} (e : mapCk vs = true) (c : Nat) (hc : tame c = true) (h61 : c ≠ 61) : ∃ t, vs[c]? = some (.str ⟨#[c]⟩ t) := by
  have h := List.all_eq_true.mp e c (List.mem_range.mpr (by have := tame_lt hc; lia))
  rw [hc, Bool.not_true, Bool.false_or, beq_eq_false_iff_ne.mpr h61, Bool.false_or] at h
  split at h <;> try contradiction
  rename_i x t hx
  exact ⟨t, by rw [hx, of_decide_eq_true h]⟩
theorem map_ck : mapCk (mapItems P) = true := by kernel_rfl
theorem map_at : (hp4 pc P).get? 46 = some { cls := .type "list", data := .seq (mapItems P).toArray 0 } := by kernel_rfl
theorem map_is : IsMap (hp4 pc P) (.ref 46) := ⟨46, _, rfl, ⟨0, map_at P⟩, mapCk_ok (map_ck P)⟩
theorem fn_parts : FnAt (hp4 pc P) 79 "_law_parts" 24 .none := fnAt_of (o := o4_79 qc P) (by kernel_rfl) (by kernel_rfl) (by kernel_rfl)
theorem fn_hooks : FnAt (hp4 pc P) 84 "_law_hooks" 25 .none := fnAt_of (o := o4_84 qc P) (by kernel_rfl) (by kernel_rfl) (by kernel_rfl)
theorem fn_decode : FnAt (hp4 pc P) 65 "decode" 20 (.ref 58) := fnAt_of (o := o4_65 qc P) (by kernel_rfl) (by kernel_rfl) (by kernel_rfl)
theorem fn_encode : FnAt (hp4 pc P) 57 "body_encode" 19 (.ref 50) := fnAt_of (o := o4_57 qc P) (by kernel_rfl) (by kernel_rfl) (by kernel_rfl)
theorem fn_swap : FnAt (hp4 pc P) 72 "_byteswap" 22 .none := fnAt_of (o := o4_72 qc P) (by kernel_rfl) (by kernel_rfl) (by kernel_rfl)
theorem fn_moved : FnAt (hp4 pc P) 89 "_law_moved" 26 .none := fnAt_of (o := o4_89 qc P) (by kernel_rfl) (by kernel_rfl) (by kernel_rfl)
theorem fn_law : FnAt (hp4 pc P) 94 "law" 27 .none := fnAt_of (o := o4_94 qc P) (by kernel_rfl) (by kernel_rfl) (by kernel_rfl)
theorem tup_decode : IsTup (hp4 pc P) 58 [.str ⟨[10].toArray⟩ 189].toArray := ⟨o4_58 qc P, by kernel_rfl, by kernel_rfl, 0, by kernel_rfl⟩
theorem tup_encode : IsTup (hp4 pc P) 50 [.int 76 1755, .str ⟨[10].toArray⟩ 189].toArray := ⟨o4_50 qc P, by kernel_rfl, by kernel_rfl, 0, by kernel_rfl⟩
noncomputable def g0 : Ad := ⟨79, 84, 65, 57, 72, 89⟩
theorem glob_ok : GlobOk g0 (hp4 pc P) where
  at_ := ⟨_, _, .ref 46, Heap.Ns.of_isNs (by kernel_rfl), Heap.Ns.of_isNs (by kernel_rfl), map_is P,
    ⟨by kernel_rfl, by kernel_rfl, by kernel_rfl, by kernel_rfl, by kernel_rfl, by kernel_rfl⟩, ⟨by kernel_rfl, by kernel_rfl, by kernel_rfl, by kernel_rfl, by kernel_rfl, by kernel_rfl⟩,
    ⟨by kernel_rfl, by kernel_rfl, by kernel_rfl, by kernel_rfl, by kernel_rfl, by kernel_rfl⟩, strCk_ok (by kernel_rfl), strCk_ok (by kernel_rfl), by kernel_rfl⟩
  fns := ⟨fn_parts P, fn_hooks P, ⟨58, 189, fn_decode P, tup_decode P⟩, ⟨50, 1755, 189, fn_encode P, tup_encode P⟩, fn_swap P, fn_moved P⟩
  lim := .of_ok (by kernel_rfl)
theorem law_name : (hp4 pc P).nsMap mainGlobals "law" = some (.ref 94) := by kernel_rfl
end
theorem row_said' (ok : rr.wellSaid = true) : rr.Holds := join left_ok (fun P => ⟨g0, glob_ok P⟩) fn_law law_name ok
theorem said_q : PySem.W.Fast.tw9446332074065402090 PySem.Challenge.rw_qu0029_01 = true := by kernel_rfl
theorem said : PySem.Challenge.rw_qu0029_01.wellSaid = true := (congrFun PySem.W.Fast.te9446332074065402090 PySem.Challenge.rw_qu0029_01).trans said_q
end Mine
end
theorem PySem.Challenge.cw_qu0029_01_holds : PySem.Challenge.rw_qu0029_01.Holds := by
  exact PySem.W.holds_law Mine.said Mine.row_said'

