import PyProof.Rows.All
import PyProof.RulesTry
import PyProof.Comp
import PyProof.AttrMissHeap
import PyProof.SliceSyntax
import PyProof.ForAny
import PyProof.Cells
import PyProof.ToksMono
import PyProof.CompFree
import PyProof.PureInt
import PyProof.Conv_bool
import PyProof.ListOps
import PyProof.DelItemList
import PyProof.DictRoads
import PyProof.DictDisplay
import PyProof.RaisesDict
import PyProof.DictValues
import PyProof.DictWalks
import PyProof.ExcClass2
import PyProof.StationsW
import PyProof.WalksMore
import PyProof.RangeFor
import PyProof.LetGo
import PyProof.ListRange
import PyProof.Rows.TupSub
import PyProof.Rows.IntRules
import PyProof.RulesDel
import PyProof.Rows.StrJoin2
import PyProof.Rows.Own
import PyProof.Rows.CatchBare
import PyProof.Rows.StrTemp
import PyProof.Rows.RuleN_isinstance
import PyProof.RulesSmallArms
import PyProof.RulesAssignMore
import PyProof.SumWalkG
import PyProof.TypeOfCall
import PyProof.TupleOfSeq
import PyProof.Rows.Range3
import PyProof.Rows.SortStr
import PyProof.SetRoads
import PyProof.SetNew
import OpenK.KMake
import OpenK.KLine
import KE.KBoundM
import KE.KStar
import Wide.FinOn
import OpenK.AllK
import Wide.All
import Lean
import PySem.Challenge.RW_il0112_02
set_option maxRecDepth 100000
set_option maxHeartbeats 4000000
set_option Elab.async false
set_option compiler.extract_closed false
set_option genSizeOf false
set_option bootstrap.genMatcherCode false
set_option pp.deepTerms false
namespace Mine
open PySem PySem.W PyProof.Rows
section
set_option compiler.extract_closed false
set_option genSizeOf false
set_option bootstrap.genMatcherCode false
set_option backward.match.sparseCases false
open PySem

/-- what a name or a place holds -/
inductive TV where
  | none | bool (b : Bool) | int (i : Int) | str (s : Str)
  | list (xs : List TV) | tup (xs : List TV)
  | rng (lo hi step : Int)
  | su (s : Str)
  | ref (n : Nat)
  | vals (n : Nat)
  | bm (n : Nat) (m : String)
  | fn (name : Str)
  | g (v : Value)

/-- a thing that may be changed -/
inductive Cell where
  | dead
  | list (xs : List TV)
  | dict (kvs : List (Str × TV)) (fx : Bool)
  | set (xs : List Str) (fx : Bool)
  | obj (cls : Str) (d : Nat)
  | ns (kvs : List (Str × TV))
  | slots (cls : Str) (vs : List (Option TV))
  | iter (src : Nat) (pos : Nat)

structure ES where
  loc : Str → Option TV
  cells : List Cell

inductive TF where
  | next | brk | cont | ret (v : TV) | exc

noncomputable def upd (f : Str → Option TV) (x : Str) (v : TV) : Str → Option TV := fun y => if y = x then some v else f y

structure FnI where
  params : List Str
  vararg : Option Str
  kwarg : Option Str
  defaults : List Const
  body : List Stmt
  scope : Scope

inductive Kind where
  | fn (f : FnI)
  | cls (init : Option Str)
  | slotted (init : Str) (names : List Str)
  | exc

structure TG where
  kind : Str → Option Kind
  glob : Str → Option TV
  meth : Str → Str → Option Str
  slotOf : Str → Str → Option Nat
  attrOk : Str → Str → Bool

structure Cx where
  sc : Scope
  hn : Bool

structure Rec where
  e : Cx → Expr → ES → (TV → ES → Prop) → Prop
  t : Cx → Expr → ES → (Bool → ES → Prop) → Prop
  s : Cx → List Stmt → ES → (TF → ES → Prop) → Prop
  c : Bool → TV → List TV → List Cell → (TV → List Cell → Prop) → Prop

noncomputable def opt {α : Type} (o : Option α) (Q : α → Prop) : Prop := ∃ a, o = some a ∧ Q a

noncomputable def lim : Nat := 4096

noncomputable def isStar : Expr → Bool
  | .Starred .. => true
  | _ => false
/-- a star that leads is alone -/
noncomputable def loneOk (l : List Expr) : Bool := (l.head?.all fun e => !isStar e) || l.tail.isEmpty

noncomputable def constTV : Const → Option TV
  | .none => some .none
  | .bool b => some (.bool b)
  | .int i => some (.int i)
  | .str s => if PyData.strOk s = true then some (.str s) else none
  | _ => none

noncomputable def nameTV (G : TG) (sc : Scope) (loc : Str → Option TV) (x : Str) : Option TV := if x = "__debug__" ∨ x = "__classdict__" then none else (sc.names.lookup x).bind fun k => match k with
  | .local => loc x
  | .cell => loc x
  | .free => loc x
  | .globalImplicit => G.glob x
  | _ => none

noncomputable def canStore (sc : Scope) (x : Str) : Prop := sc.names.lookup x = some .local ∨ sc.names.lookup x = some .cell

/-! looks at a value, at a cell -/
noncomputable def strOf : TV → Option Str
  | .str s => some s
  | _ => none
noncomputable def intOf : TV → Option Int
  | .int i => some i
  | _ => none
noncomputable def refOf : TV → Option Nat
  | .ref n => some n
  | _ => none
/-- a str, whichever token it bears -/
noncomputable def keyTV : TV → Option Str
  | .str s => some s
  | .su s => some s
  | _ => none
noncomputable def intPart : TV → Option (Option Int)
  | .none => some none
  | .int i => some (some i)
  | _ => none
noncomputable def typV : Value → Option String
  | .type T => some T
  | _ => none
noncomputable def cellL : Option Cell → Option (List TV)
  | some (.list xs) => some xs
  | _ => none
noncomputable def cellD : Option Cell → Option (List (Str × TV))
  | some (.dict kvs _) => some kvs
  | _ => none
noncomputable def cellDo : Option Cell → Option (List (Str × TV))
  | some (.dict kvs false) => some kvs
  | _ => none
noncomputable def cellN : Option Cell → Option (List (Str × TV))
  | some (.ns kvs) => some kvs
  | _ => none

noncomputable def listOfTV (cells : List Cell) : TV → Option (List TV)
  | .list xs => some xs
  | .ref n => cellL cells[n]?
  | _ => none

noncomputable def seqOfTV (cells : List Cell) : TV → Option (List TV)
  | .tup xs => some xs
  | v => listOfTV cells v

noncomputable def toPy (_cells : List Cell) (v : TV) : Option PyData := @TV.rec (fun _ => Option PyData) (fun _ => Option (List PyData)) (some .none) (fun b => some (.bool b)) (fun i => some (.int i)) (fun s => some (.str s))
  (fun _ ih => ih.map .list) (fun _ ih => ih.map .tuple) (fun _ _ _ => none) (fun _ => none) (fun _ => none) (fun _ => none) (fun _ _ => none) (fun _ => none) (fun _ => none) (some []) (fun _ _ a b => a.bind fun a => b.map (a :: ·)) v
noncomputable def toPys (_cells : List Cell) (v : List TV) : Option (List PyData) := @TV.rec_1 (fun _ => Option PyData) (fun _ => Option (List PyData)) (some .none) (fun b => some (.bool b)) (fun i => some (.int i)) (fun s => some (.str s))
  (fun _ ih => ih.map .list) (fun _ ih => ih.map .tuple) (fun _ _ _ => none) (fun _ => none) (fun _ => none) (fun _ => none) (fun _ _ => none) (fun _ => none) (fun _ => none) (some []) (fun _ _ a b => a.bind fun a => b.map (a :: ·)) v

noncomputable def truthC : Option Cell → Option Bool
  | some (.list xs) => if xs.length ≤ lim then some (!xs.isEmpty) else none
  | some (.dict xs _) => if xs.length ≤ lim then some (!xs.isEmpty) else none
  | _ => none
noncomputable def truthTV (cells : List Cell) : TV → Option Bool
  | .none => some false
  | .bool b => some b
  | .int i => some (i != 0)
  | .str s => if s.length ≤ lim then some (s.length != 0) else none
  | .list xs => if xs.length ≤ lim then some (!xs.isEmpty) else none
  | .tup xs => if xs.length ≤ lim then some (!xs.isEmpty) else none
  | .ref n => truthC cells[n]?
  | _ => none

/-- a list's cell that is handed on for good -/
noncomputable def frzC (n : Nat) (cells : List Cell) : Option (List TV) → TV × List Cell
  | some xs => (.list xs, cells.set n .dead)
  | none => (.ref n, cells)
noncomputable def frz (v : TV) (cells : List Cell) : TV × List Cell := match v with
  | .ref n => frzC n cells (cellL cells[n]?)
  | _ => (v, cells)
noncomputable def frzs (vs : List TV) : List Cell → List TV × List Cell :=
  @List.rec TV (fun _ => List Cell → List TV × List Cell) (fun cells => ([], cells)) (fun v _ ih cells => ((frz v cells).1 :: (ih (frz v cells).2).1, (ih (frz v cells).2).2)) vs

noncomputable def pick {α : Type} (xs : List α) (lo hi st : Option Int) : List α :=
  (sliceRange (sliceBounds lo hi st xs.length).1 (sliceBounds lo hi st xs.length).2.1 (sliceBounds lo hi st xs.length).2.2).filterMap (fun i => xs[i]?)

noncomputable def sliceAt (cells : List Cell) (o : TV) (lo hi st : Option Int) : Option TV := match strOf o with
  | some x => if x.length ≤ lim then some (.str ⟨(pick x.cps.toList lo hi st).toArray⟩) else none
  | none => (listOfTV cells o).bind fun xs => if xs.length ≤ lim then some (.list (pick xs lo hi st)) else none
noncomputable def sliceTV (cells : List Cell) (o l u s : TV) : Option TV :=
  (intPart l).bind fun lo => (intPart u).bind fun hi => (intPart s).bind fun st => if st = some 0 then none else sliceAt cells o lo hi st

noncomputable def lookD (kvs : List (Str × TV)) (k : Str) : Option TV := @List.rec (Str × TV) (fun _ => Option TV) none (fun p _ ih => if p.1 = k then some p.2 else ih) kvs
noncomputable def putD (kvs : List (Str × TV)) (k : Str) (v : TV) : List (Str × TV) := @List.rec (Str × TV) (fun _ => List (Str × TV)) [(k, v)] (fun p r ih => if p.1 = k then (p.1, v) :: r else p :: ih) kvs
noncomputable def delD (kvs : List (Str × TV)) (k : Str) : List (Str × TV) := @List.rec (Str × TV) (fun _ => List (Str × TV)) [] (fun p r ih => if p.1 = k then r else p :: ih) kvs

/-- a dict's cell -/
noncomputable def dictTV (cells : List Cell) : TV → Option (List (Str × TV))
  | .ref n => cellD cells[n]?
  | _ => none

noncomputable def itemInt (cells : List Cell) (o : TV) (k : Int) : Option TV := match strOf o with
  | some x => (if x.length ≤ lim then some () else none).bind fun _ => ((seqIndex? k x.length).bind (x.cps[·]?)).map fun c => .str ⟨#[c]⟩
  | none => (seqOfTV cells o).bind fun xs => (if xs.length ≤ lim then some () else none).bind fun _ => (seqIndex? k xs.length).bind (xs[·]?)
noncomputable def itemSeq (cells : List Cell) (o i : TV) : Option TV := match i with
  | .int k => itemInt cells o k
  | .bool b => (listOfTV cells o).bind fun xs => xs[if b then 1 else 0]?
  | _ => none

noncomputable def itemTV (cells : List Cell) (o i : TV) : Option TV := match dictTV cells o with
  | some kvs => (keyTV i).bind (lookD kvs)
  | none => itemSeq cells o i

/-- the binary operators -/
inductive Bin (cells : List Cell) : Operator → TV → TV → TV → Prop
  | add {i j : Int} : Bin cells .Add (.int i) (.int j) (.int (i + j))
  | sub {i j : Int} : Bin cells .Sub (.int i) (.int j) (.int (i - j))
  | fdiv {i j : Int} : 0 < j → j < 1000 → Bin cells .FloorDiv (.int i) (.int j) (.int (i.fdiv j))
  | fmod {i j : Int} : 0 < j → j < 1000 → Bin cells .Mod (.int i) (.int j) (.int (i.fmod j))
  | adds {x y : Str} : x.length + y.length ≤ lim → Bin cells .Add (.str x) (.str y) (.str (x ++ y))
  | adds1 {x y : Str} : x.length + y.length ≤ lim → x.length ≠ 0 → y.length ≠ 0 → Bin cells .Add (.su x) (.str y) (.str (x ++ y))
  | adds2 {x y : Str} : x.length + y.length ≤ lim → x.length ≠ 0 → y.length ≠ 0 → Bin cells .Add (.str x) (.su y) (.str (x ++ y))
  | mul {x : TV} {k : Int} {xs : List TV} : listOfTV cells x = some xs → 0 ≤ k → k ≤ lim → xs.length * k.toNat ≤ lim → Bin cells .Mult x (.int k) (.list (List.replicate k.toNat xs).flatten)
  | addl {x y : TV} {xs ys : List TV} : listOfTV cells x = some xs → listOfTV cells y = some ys → xs.length + ys.length ≤ lim → Bin cells .Add x y (.list (xs ++ ys))

/-- the data behind a list or a list's cell -/
noncomputable def pyOf (cells : List Cell) (v : TV) : Option PyData := match listOfTV cells v with
  | some xs => toPy cells (.list xs)
  | none => toPy cells v

noncomputable def eqTV (cells : List Cell) (a b : TV) : Option Bool := (pyOf cells a).bind fun x => (pyOf cells b).bind fun y => if x.depth ≤ 60 ∧ y.depth ≤ 60 then some (PyData.eqv x y) else none

noncomputable def inList (cells : List Cell) (a : TV) (xs : List TV) : Option Bool := (toPys cells xs).bind fun ds => (pyOf cells a).bind fun d => if PyData.depthAll ds ≤ 60 ∧ xs.length ≤ lim then some (ds.any fun x => PyData.eqv x d) else none

noncomputable def inC (cells : List Cell) (a : TV) : Option Cell → Option Bool
  | some (.dict kvs _) => (keyTV a).map fun k => (lookD kvs k).isSome
  | some (.set xs _) => (keyTV a).map fun k => xs.contains k
  | some (.list xs) => inList cells a xs
  | _ => none
noncomputable def inTV (cells : List Cell) (a b : TV) : Option Bool := match b with
  | .ref n => inC cells a cells[n]?
  | .list xs => inList cells a xs
  | _ => none

noncomputable def isN : TV → Option Bool
  | .none => some true
  | .g _ => none
  | _ => some false
noncomputable def isG (v : Value) : TV → Option Bool
  | .g u => (typV v).bind fun T => (typV u).map fun U => decide (U = T)
  | _ => none
noncomputable def isTV (a b : TV) : Option Bool := match b with
  | .none => isN a
  | .g v => isG v a
  | .str y => (strOf a).bind fun x => if x = y then none else some false
  | _ => none

noncomputable def cmpI (f : Int → Int → Bool) (a b : TV) : Option Bool := (intOf a).bind fun i => (intOf b).map (f i)
noncomputable def cmpTV (cells : List Cell) (op : CmpOp) (a b : TV) : Option Bool := match op with
  | .Eq => eqTV cells a b
  | .NotEq => (eqTV cells a b).map (!·)
  | .In => inTV cells a b
  | .NotIn => (inTV cells a b).map (!·)
  | .Is => isTV a b
  | .IsNot => (isTV a b).map (!·)
  | .Lt => cmpI (fun i j => decide (i < j)) a b
  | .Gt => cmpI (fun i j => decide (i > j)) a b
  | .LtE => cmpI (fun i j => decide (i ≤ j)) a b
  | .GtE => cmpI (fun i j => decide (i ≥ j)) a b

noncomputable def optE (r : Rec) (cx : Cx) (o : Option Expr) (es : ES) (Q : TV → ES → Prop) : Prop := match o with
  | none => Q .none es
  | some e => r.e cx e es Q

/-- one argument, spliced if it bears a star -/
inductive EvA (r : Rec) (cx : Cx) (es : ES) (Q : List TV → ES → Prop) : Expr → Prop
  | star {e : Expr} {p : Pos} : (r.e cx e es fun v es => opt (seqOfTV es.cells v) fun xs => xs.length ≤ lim ∧ Q xs es) → EvA r cx es Q (.Starred e p)
  | one {e : Expr} : (∀ env rest, starEach (e :: rest) env = (false, eval e env) :: starEach rest env) → (r.e cx e es fun v es => Q [v] es) → EvA r cx es Q e
/-- arguments, displays: one behind the other, a star spliced -/
noncomputable def evL (r : Rec) (cx : Cx) (l : List Expr) : ES → (List TV → ES → Prop) → Prop :=
  @List.rec Expr (fun _ => ES → (List TV → ES → Prop) → Prop) (fun es Q => Q [] es) (fun e _ ih es Q => EvA r cx es (fun vs es => ih es fun us es => Q (vs ++ us) es) e) l

noncomputable def notG : TV → Bool
  | .g _ => false
  | _ => true

noncomputable def attrC (G : TG) (cells : List Cell) (a : Str) (n : Nat) : Option Cell → Option TV
  | some (.obj c d) => (cellN cells[d]?).bind fun kvs => if G.attrOk c a = true then (lookD kvs a).filter notG else none
  | some (.slots c vs) => (G.slotOf c a).bind fun i => ((vs[i]?).join).filter notG
  | some (.list _) => if a = "append" then some (.bm n "list.append") else none
  | some (.iter _ _) => if a = "__next__" then some (.bm n "list_iterator.__next__") else none
  | _ => none
noncomputable def attrTV (G : TG) (cells : List Cell) (o : TV) (a : Str) : Option TV := (refOf o).bind fun n => attrC G cells a n cells[n]?

/-- an attribute's store -/
inductive SetA (G : TG) (cells : List Cell) : TV → Str → TV → List Cell → Prop
  | obj {n d : Nat} {c a : Str} {v : TV} {kvs : List (Str × TV)} : cells[n]? = some (.obj c d) → cells[d]? = some (.ns kvs) → G.attrOk c a = true → kvs.length ≤ 100 → SetA G cells (.ref n) a v (cells.set d (.ns (putD kvs a v)))
  | slot {n i : Nat} {c a : Str} {v : TV} {vs : List (Option TV)} : cells[n]? = some (.slots c vs) → G.slotOf c a = some i → i < vs.length → SetA G cells (.ref n) a v (cells.set n (.slots c (vs.set i (some v))))

noncomputable def setItemTV (cells : List Cell) (o k v : TV) : Option (List Cell) := (refOf o).bind fun n => (keyTV k).bind fun k => (cellDo cells[n]?).bind fun kvs => if kvs.length ≤ lim then some (cells.set n (.dict (putD kvs k v) false)) else none
noncomputable def delItemTV (cells : List Cell) (o k : TV) : Option (List Cell) := (refOf o).bind fun n => (keyTV k).bind fun k => (cellDo cells[n]?).bind fun kvs => if (lookD kvs k).isSome ∧ kvs.length ≤ lim then some (cells.set n (.dict (delD kvs k) false)) else none

noncomputable def strList (l : List TV) : Option (List Str) := @List.rec TV (fun _ => Option (List Str)) (some []) (fun x _ ih => (strOf x).bind fun s => ih.map (s :: ·)) l
noncomputable def intList (l : List TV) : Option (List Int) := @List.rec TV (fun _ => Option (List Int)) (some []) (fun x _ ih => (intOf x).bind fun s => ih.map (s :: ·)) l

/-- the order of Python's strs, rising -/
noncomputable def strLe (a b : Str) : Bool := !(decide (b.cps.toList < a.cps.toList))
noncomputable def sortS (xs : List Str) : List Str := xs.mergeSort strLe

noncomputable def splitS (x sep : Str) : List Str := Txt.split x sep

/-- what re.escape's table makes of one sign of those that are met here -/
noncomputable def escS (x : Str) : Option Str := if x = "a" ∨ x = "b" ∨ x = "/" then some x else if x = "." then some "\\." else none

noncomputable def rangeL (lo hi st : Int) : List TV := (List.range (Builtin.Range.rangeSize lo hi st).toNat).map fun (i : Nat) => .int (lo + (i : Int) * st)
/-- a built-in type, called -/
inductive TyC (cells : List Cell) : String → List TV → TV → Prop
  | str {x : Str} : TyC cells "str" [.str x] (.str x)
  | strI {i : Int} : i.natAbs < 2 ^ 64 → PyData.strOk (toString i) = true → TyC cells "str" [.int i] (.str (toString i))
  | list {lo hi st : Int} : Builtin.Range.small lo hi st = true → 0 ≤ Builtin.Range.rangeSize lo hi st → Builtin.Range.rangeSize lo hi st ≤ lim → TyC cells "list" [.rng lo hi st] (.list (rangeL lo hi st))
  | range1 {hi : Int} : TyC cells "range" [.int hi] (.rng 0 hi 1)
  | range2 {lo hi : Int} : TyC cells "range" [.int lo, .int hi] (.rng lo hi 1)
  | range3 {lo hi st : Int} : st ≠ 0 → Builtin.divisionGoesByPylong (hi - lo) st = false → TyC cells "range" [.int lo, .int hi, .int st] (.rng lo hi st)
  | bool {v : TV} {xs : List TV} : listOfTV cells v = some xs → xs.length ≤ lim → TyC cells "bool" [v] (.bool (!xs.isEmpty))
  | tuple {v : TV} {xs : List TV} : listOfTV cells v = some xs → xs.length ≤ lim → TyC cells "tuple" [v] (.tup xs)
  | type {x : Str} : TyC cells "type" [.str x] (.g (.type "str"))

/-- a built-in function on its arguments: a value, the cells as they are -/
inductive Bltn (cells : List Cell) : String → List TV → TV → Prop
  | lenS {x : Str} : x.length ≤ lim → Bltn cells "len" [.str x] (.int x.length)
  | len {v : TV} {xs : List TV} : seqOfTV cells v = some xs → xs.length ≤ lim → Bltn cells "len" [v] (.int xs.length)
  | sum {v : TV} {xs : List TV} {ns : List Int} : listOfTV cells v = some xs → xs.length ≤ lim → intList xs = some ns → Bltn cells "sum" [v] (.int ns.sum)
  | sorted {v : TV} {xs : List TV} {ss : List Str} : seqOfTV cells v = some xs → xs.length < 64 → strList xs = some ss → Bltn cells "sorted" [v] (.list ((sortS ss).map .str))
  | max {v : TV} {xs : List TV} {ns : List Int} {m : Int} : listOfTV cells v = some xs → intList xs = some ns → xs.length ≤ lim → ns.max? = some m → Bltn cells "max" [v] (.int m)
  | isi {x : Str} : Bltn cells "isinstance" [.str x, .g (.type "str")] (.bool true)
  | join {x : Str} {v : TV} {xs : List TV} {ss : List Str} : listOfTV cells v = some xs → strList xs = some ss → ss.length ≤ 1000 → x.length ≤ 64 → (ss.map (·.length)).sum ≤ 4096 → PyData.strOk (Txt.join x ss) = true →
      Bltn cells "str.join" [.str x, v] (.str (Txt.join x ss))
  | starts {x y : Str} : x.length ≤ lim → Bltn cells "str.startswith" [.str x, .str y] (.bool (Txt.startswith x y))
  | split {x y : Str} : y.length = 1 → (Txt.split x y).all PyData.strOk = true → x.length ≤ 1000 → (Txt.split x y).length ≤ lim → Bltn cells "str.split" [.str x, .str y] (.list ((Txt.split x y).map .str))
  | keep {x : Str} : x = "a" ∨ x = "b" ∨ x = "/" → Bltn cells "str.translate" [.str x, .fn "_special_chars_map"] (.str x)
  | dot : Bltn cells "str.translate" [.str ".", .fn "_special_chars_map"] (.str "\\.")

/-- a method of a cell that is no instance, by its full name -/
inductive CellM (cells : List Cell) : String → Nat → List TV → TV → List Cell → Prop
  | append {n : Nat} {xs : List TV} {v : TV} : cells[n]? = some (.list xs) → xs.length ≤ lim → CellM cells "list.append" n [v] .none (cells.set n (.list (xs ++ [v])))
  | extend {n : Nat} {xs ys : List TV} : cells[n]? = some (.list xs) → xs.length + ys.length ≤ lim → CellM cells "list.extend" n [.list ys] .none (cells.set n (.list (xs ++ ys)))
  | clear {n : Nat} {xs : List TV} : cells[n]? = some (.list xs) → xs.length ≤ lim → CellM cells "list.clear" n [] .none (cells.set n (.list []))
  | pop {n : Nat} {xs : List TV} {v : TV} : cells[n]? = some (.list xs) → xs.length ≤ lim → xs.getLast? = some v → CellM cells "list.pop" n [] v (cells.set n (.list xs.dropLast))
  | get {n : Nat} {kvs : List (Str × TV)} {b : Bool} {v : TV} {k : Str} : cells[n]? = some (.dict kvs b) → keyTV v = some k → CellM cells "dict.get" n [v] ((lookD kvs k).getD .none) cells
  | values {n : Nat} {kvs : List (Str × TV)} {b : Bool} : cells[n]? = some (.dict kvs b) → CellM cells "dict.values" n [] (.vals n) cells
  | add {n : Nat} {xs : List Str} {v : TV} {k : Str} : cells[n]? = some (.set xs false) → keyTV v = some k → xs.length ≤ 1000 → CellM cells "set.add" n [v] .none (cells.set n (.set (if xs.contains k then xs else xs ++ [k]) false))

/-- a call of something that is no def and no class of the text's -/
inductive Plain (hn : Bool) (cells : List Cell) : TV → List TV → TV → List Cell → Prop
  | iter {n : Nat} {xs : List TV} : cells[n]? = some (.list xs) → Plain hn cells (.g (.builtin "iter")) [.ref n] (.ref cells.length) (cells ++ [.iter n 0])
  | meth {id : String} {n : Nat} {vs : List TV} {v : TV} {cells' : List Cell} : CellM cells id n vs v cells' → Plain hn cells (.g (.builtin id)) (.ref n :: vs) v cells'
  | fn {id : String} {args : List TV} {v : TV} : hn = true → Bltn cells id args v → Plain hn cells (.g (.builtin id)) args v cells
  | set : Plain hn cells (.g (.type "set")) [] (.ref cells.length) (cells ++ [.set [] false])
  | type {T : String} {args : List TV} {v : TV} : hn = true → TyC cells T args v → Plain hn cells (.g (.type T)) args v cells
  | bound {n : Nat} {xs : List TV} {v : TV} : cells[n]? = some (.list xs) → xs.length ≤ lim → Plain hn cells (.bm n "list.append") [v] .none (cells.set n (.list (xs ++ [v])))

noncomputable def isBuiltinCallee (f : TV) : Bool := match f with
  | .fn _ => false
  | _ => true

noncomputable def callTV (G : TG) (r : Rec) (cx : Cx) (f : TV) (args : List TV) (es : ES) (Q : TV → ES → Prop) : Prop :=
  (∃ name, f = .fn name ∧ (G.kind name).isSome = true ∧ r.c cx.hn (.fn name) args es.cells fun v cells => Q v { es with cells := cells }) ∨ ∃ v cells, Plain cx.hn es.cells f args v cells ∧ Q v { es with cells := cells }

/-- what a method's name finds at a value -/
noncomputable def methS (m : Str) : Option String := [(("startswith" : Str), "str.startswith"), ("split", "str.split"), ("join", "str.join"), ("translate", "str.translate")].lookup m
noncomputable def methL (m : Str) : Option String := [(("append" : Str), "list.append"), ("extend", "list.extend"), ("clear", "list.clear"), ("pop", "list.pop")].lookup m
noncomputable def methD (m : Str) : Option String := [(("get" : Str), "dict.get"), ("values", "dict.values")].lookup m
noncomputable def methC (G : TG) (cells : List Cell) (m : Str) : Option Cell → Option TV
  | some (.list _) => (methL m).map fun i => .g (.builtin i)
  | some (.dict _ _) => (methD m).map fun i => .g (.builtin i)
  | some (.set _ _) => if m = "add" then some (.g (.builtin "set.add")) else none
  | some (.obj c d) => (cellN cells[d]?).bind fun kvs => if lookD kvs m = none then (G.meth c m).map .fn else none
  | _ => none
noncomputable def methOf (G : TG) (cells : List Cell) (o : TV) (m : Str) : Option TV := match o with
  | .str _ => (methS m).map fun i => .g (.builtin i)
  | .ref n => methC G cells m cells[n]?
  | _ => none

inductive WK where
  | list | tup | rng | keys | vals | set
/-- what is gone over, and how -/
noncomputable def standsW (cells : List Cell) (v : TV) (xs : List TV) : WK → Prop
  | .list => v = .list xs ∨ ∃ n, v = .ref n ∧ cells[n]? = some (.list xs)
  | .tup => v = .tup xs
  | .rng => ∃ lo hi st, v = .rng lo hi st ∧ (Builtin.Range.small lo hi st = true ∧ 0 ≤ Builtin.Range.rangeSize lo hi st) ∧ xs = rangeL lo hi st
  | .keys => ∃ n kvs, v = .ref n ∧ cells[n]? = some (.dict kvs true) ∧ xs = kvs.map fun p => .su p.1
  | .vals => ∃ n kvs, v = .vals n ∧ cells[n]? = some (.dict kvs true) ∧ xs = kvs.map (·.2)
  | .set => ∃ n, v = .ref n ∧ cells[n]? = some (.set [] true) ∧ xs = []
/-- it stands as it stood -/
noncomputable def stands (k : WK) (cells : List Cell) (v : TV) (xs : List TV) : Prop := standsW cells v xs k ∧ xs.length ≤ lim

/-- a dict or a set that is gone over changes no more -/
noncomputable def lockC : Cell → Cell
  | .dict kvs _ => .dict kvs true
  | .set xs _ => .set xs true
  | c => c
noncomputable def lockAt (cells : List Cell) (n : Nat) : Option Cell → List Cell
  | some c => cells.set n (lockC c)
  | none => cells
noncomputable def lockTV (cells : List Cell) (src : TV) : List Cell := match src with
  | .ref n => lockAt cells n cells[n]?
  | .vals n => lockAt cells n cells[n]?
  | _ => cells
noncomputable def lockES (es : ES) (src : TV) : ES := { es with cells := lockTV es.cells src }

/-- what is gone over -/
noncomputable def walks (es : ES) (src : TV) (Q : WK → List TV → ES → Prop) : Prop := ∃ k xs, stands k (lockTV es.cells src) src xs ∧ Q k xs (lockES es src)

noncomputable def storeTV (cx : Cx) (x : Str) (v : TV) (es : ES) (Q : ES → Prop) : Prop := canStore cx.sc x ∧ Q { es with loc := upd es.loc x v }
noncomputable def storeAll (cx : Cx) (ts : List Expr) : List TV → ES → (ES → Prop) → Prop :=
  @List.rec Expr (fun _ => List TV → ES → (ES → Prop) → Prop) (fun vs es Q => vs = [] ∧ Q es) (fun t _ ih vs es Q => ∃ x p v us, t = .Name x p ∧ vs = v :: us ∧ storeTV cx x v es fun es => ih us es Q) ts

/-- a for's or a comprehension's target -/
inductive BindT' (cx : Cx) (es : ES) (Q : ES → Prop) : Expr → TV → Prop
  | name {x : Str} {p : Pos} {v : TV} : storeTV cx x v es Q → BindT' cx es Q (.Name x p) v
  | tuple {ts : List Expr} {k : Nat} {p : Pos} {vs : List TV} : cx.hn = true → storeAll cx ts vs es Q → BindT' cx es Q (.Tuple ts k p) (.tup vs)
noncomputable abbrev BindT (cx : Cx) (e : Expr) (v : TV) (es : ES) (Q : ES → Prop) : Prop := BindT' cx es Q e v

noncomputable def evIfs (r : Rec) (cx : Cx) (cs : List Expr) : ES → (Bool → ES → Prop) → Prop :=
  @List.rec Expr (fun _ => ES → (Bool → ES → Prop) → Prop) (fun es Q => Q true es) (fun c _ ih es Q => r.t cx c es fun b es => if b = true then ih es Q else Q false es) cs

noncomputable def genLoop (r : Rec) (cx : Cx) (g : Comprehension) (k : WK) (src : TV) (all : List TV) (inner : ES → (List TV → ES → Prop) → Prop) (xs : List TV) : ES → List TV → (List TV → ES → Prop) → Prop :=
  @List.rec TV (fun _ => ES → List TV → (List TV → ES → Prop) → Prop) (fun es acc Q => stands k es.cells src all ∧ Q acc es)
    (fun x _ ih es acc Q => stands k es.cells src all ∧ BindT cx g.target x es fun es => evIfs r cx g.ifs es fun b es => if b = true then inner es fun vs es => (acc ++ vs).length ≤ lim ∧ ih es (acc ++ vs) Q else ih es acc Q) xs

/-- the clauses behind the first -/
noncomputable def evGens (r : Rec) (cx : Cx) (elt : Expr) (gs : List Comprehension) : ES → (List TV → ES → Prop) → Prop :=
  @List.rec Comprehension (fun _ => ES → (List TV → ES → Prop) → Prop) (fun es Q => r.e cx elt es fun v es => Q [v] es)
    (fun g _ ih es Q => (∀ env x, foldedSetIterable g.iter env x = pure x) ∧ r.e cx g.iter es fun src es => walks es src fun k xs es => genLoop r cx g k src xs ih xs es [] Q) gs

/-- a comprehension's scope within the frame's -/
noncomputable def scopeOk (sc sc' : Scope) : Bool := (sc'.kind == .function && decide ((sc'.names.map (·.1)).Nodup)) && sc'.names.all fun p => !(p.2 == .free) || (sc.names.lookup p.1 == some .cell || sc.names.lookup p.1 == some .free)

/-- what a comprehension's own frame sees at first -/
noncomputable def inner (sc' : Scope) (loc : Str → Option TV) : Str → Option TV := fun x => if sc'.names.lookup x = some .free then loc x else none

noncomputable def evComp (r : Rec) (cx : Cx) (elt : Expr) (gens : List Comprehension) (sc' : Scope) (es : ES) (Q : TV → ES → Prop) : Prop := match gens with
  | g :: gs => cx.hn = true ∧ scopeOk cx.sc sc' = true ∧ (∀ env x, foldedSetIterable g.iter env x = pure x) ∧ (gens.all fun g => g.is_async == 0) = true ∧ gens.length ≤ 10 ∧ r.e cx g.iter es fun src es => walks es src fun k xs es =>
      genLoop r { cx with sc := sc' } g k src xs (evGens r { cx with sc := sc' } elt gs) xs { es with loc := inner sc' es.loc } [] fun vs es' => vs.length ≤ lim ∧ Q (.list vs) { es' with loc := es.loc }
  | [] => False

noncomputable def isOr : BoolOp → Bool
  | .Or => true
  | .And => false
noncomputable def evBoolT (r : Rec) (cx : Cx) (op : BoolOp) (l : List Expr) : ES → (Bool → ES → Prop) → Prop :=
  @List.rec Expr (fun _ => ES → (Bool → ES → Prop) → Prop) (fun es Q => Q (!isOr op) es) (fun e _ ih es Q => r.t cx e es fun b es => if b = isOr op then Q b es else ih es Q) l

/-- a subscript's read -/
inductive SubE' (r : Rec) (cx : Cx) (o : TV) (es : ES) (Q : TV → ES → Prop) : Expr → Prop
  | slice {l u st : Option Expr} {p : Pos} : (optE r cx l es fun l es => optE r cx u es fun u es => optE r cx st es fun st es => opt (sliceTV es.cells o l u st) fun v => Q v es) → SubE' r cx o es Q (.Slice l u st p)
  | item {e : Expr} : (∀ o i, subscripted e false o i = operate [o, i] (getItem o i)) → (r.e cx e es fun i es => opt (itemTV es.cells o i) fun v => Q v es) → SubE' r cx o es Q e
noncomputable abbrev SubE (r : Rec) (cx : Cx) (o : TV) (e : Expr) (es : ES) (Q : TV → ES → Prop) : Prop := SubE' r cx o es Q e

inductive StepE' (G : TG) (r : Rec) (cx : Cx) (es : ES) (Q : TV → ES → Prop) : Expr → Prop
  | const {c : Const} {k : Nat} {p : Pos} {v : TV} : constTV c = some v → Q v es → StepE' G r cx es Q (.Constant c k p)
  | name {x : Str} {p : Pos} {v : TV} : nameTV G cx.sc es.loc x = some v → Q v es → StepE' G r cx es Q (.Name x p)
  | named {x : Str} {p p' : Pos} {e : Expr} : (r.e cx e es fun v es => storeTV cx x v es fun es => Q v es) → StepE' G r cx es Q (.NamedExpr (.Name x p) e p')
  | bin {a b : Expr} {op : Operator} {p : Pos} : (r.e cx a es fun a es => r.e cx b es fun b es => ∃ v, Bin es.cells op a b v ∧ Q v es) → StepE' G r cx es Q (.BinOp a op b p)
  | neg {e : Expr} {p : Pos} : (r.e cx e es fun v es => ∃ i, v = .int i ∧ Q (.int (-i)) es) → StepE' G r cx es Q (.UnaryOp .USub e p)
  | ifexp {t a b : Expr} {p : Pos} : (r.t cx t es fun c es => if c then r.e cx a es Q else r.e cx b es Q) → StepE' G r cx es Q (.IfExp t a b p)
  | list {xs : List Expr} {p : Pos} : (evL r cx xs es fun vs es => vs.length ≤ lim ∧ Q (.list (frzs vs es.cells).1) { es with cells := (frzs vs es.cells).2 }) → StepE' G r cx es Q (.List xs p)
  | tuple {xs : List Expr} {k : Nat} {p : Pos} : (evL r cx xs es fun vs es => vs.length ≤ lim ∧ Q (.tup vs) es) → StepE' G r cx es Q (.Tuple xs k p)
  | dict0 {p : Pos} : Q (.ref es.cells.length) { es with cells := es.cells ++ [.dict [] false] } → StepE' G r cx es Q (.Dict [] [] p)
  | dict1 {k : Str} {i : Int} {k1 k2 : Nat} {p1 p2 p : Pos} : PyData.strOk k = true → Q (.ref es.cells.length) { es with cells := es.cells ++ [.dict [(k, .int i)] false] } →
      StepE' G r cx es Q (.Dict [some (.Constant (.str k) k1 p1)] [.Constant (.int i) k2 p2] p)
  | comp {elt : Expr} {gens : List Comprehension} {sc' : Scope} {p : Pos} : evComp r cx elt gens sc' es Q → StepE' G r cx es Q (.ListComp elt gens sc' p)
  | joined {c : Const} {k : Nat} {p p' : Pos} {v : TV} : constTV c = some v → Q v es → StepE' G r cx es Q (.JoinedStr [.Constant c k p] p')
  | cmp {a b : Expr} {op : CmpOp} {p : Pos} : behindInMarks op b = false → (r.e cx a es fun a es => r.e cx b es fun b es => opt (cmpTV es.cells op a b) fun c => Q (.bool c) es) → StepE' G r cx es Q (.Compare a [op] [b] p)
  | or {a b : Expr} {p : Pos} : (r.e cx a es fun v es => opt (truthTV es.cells v) fun c => if c then Q v es else r.e cx b es Q) → StepE' G r cx es Q (.BoolOp .Or [a, b] p)
  | sub {a s : Expr} {p : Pos} : (r.e cx a es fun o es => SubE r cx o s es Q) → StepE' G r cx es Q (.Subscript a s p)
  | attr {e : Expr} {a : Str} {p : Pos} : (∀ env whole, attributeBase e a env whole = whole) → (r.e cx e es fun o es => opt (attrTV G es.cells o a) fun v => Q v es) → StepE' G r cx es Q (.Attribute e a p)
  | call {f : Expr} {args : List Expr} {p : Pos} : (∀ env, eval (.Call f args [] p) env = do let x ← eval f env; callWith p x [] (backTo p (starEach args env)) (backToKw p (keywordEach [] env))) → loneOk args = true → (r.e cx f es fun fv es => evL r cx args es fun vs es => callTV G r cx fv vs es Q) → StepE' G r cx es Q (.Call f args [] p)
  | callM {o : Expr} {m : Str} {apos p : Pos} {args : List Expr} : (∀ env whole, attributeBase o m env whole = whole) → (∀ env, (backTo p (starEach args env)).any (·.1) = args.any isStar) → loneOk args = true → (r.e cx o es fun ov es => opt (methOf G es.cells ov m) fun fv => if args.any isStar = true then isBuiltinCallee fv = false ∧ evL r cx args es fun vs es => callTV G r cx fv (ov :: vs) es Q
      else args.length < 29 ∧ apos.endLine = p.line ∧ evL r cx args es fun vs es => callTV G r cx fv (ov :: vs) es Q) → StepE' G r cx es Q (.Call (.Attribute o m apos) args [] p)
noncomputable abbrev StepE (G : TG) (r : Rec) (cx : Cx) (e : Expr) (es : ES) (Q : TV → ES → Prop) : Prop := StepE' G r cx es Q e

inductive StepT' (G : TG) (r : Rec) (cx : Cx) (es : ES) (Q : Bool → ES → Prop) : Expr → Prop
  | not {e : Expr} {p : Pos} : (r.t cx e es fun b es => Q (!b) es) → StepT' G r cx es Q (.UnaryOp .Not e p)
  | boolop {op : BoolOp} {vs : List Expr} {p : Pos} : evBoolT r cx op vs es Q → StepT' G r cx es Q (.BoolOp op vs p)
  | cmp {a b : Expr} {op : CmpOp} {p : Pos} : behindInMarks op b = false → (r.e cx a es fun a es => r.e cx b es fun b es => opt (cmpTV es.cells op a b) fun c => Q c es) → StepT' G r cx es Q (.Compare a [op] [b] p)
  | plain {e : Expr} : (∀ env whole, isTrue e env whole = (do let v ← whole; standAt e.pos; holding [v] (truthy v))) → (StepE G r cx e es fun v es => opt (truthTV es.cells v) fun b => Q b es) → StepT' G r cx es Q e
noncomputable abbrev StepT (G : TG) (r : Rec) (cx : Cx) (e : Expr) (es : ES) (Q : Bool → ES → Prop) : Prop := StepT' G r cx es Q e

/-- a store into what is no name -/
inductive AsgT' (G : TG) (r : Rec) (cx : Cx) (es : ES) (Q : ES → Prop) : Expr → TV → Prop
  | name {x : Str} {p : Pos} {v : TV} : storeTV cx x v es Q → AsgT' G r cx es Q (.Name x p) v
  | tuple {ts : List Expr} {k : Nat} {p : Pos} {vs : List TV} : cx.hn = true → storeAll cx ts vs es Q → AsgT' G r cx es Q (.Tuple ts k p) (.tup vs)
  | attr {o : Expr} {a : Str} {p : Pos} {v : TV} : (r.e cx o es fun o es => ∃ cells, SetA G es.cells o a v cells ∧ Q { es with cells := cells }) → AsgT' G r cx es Q (.Attribute o a p) v
  | sub {o i : Expr} {p : Pos} {v : TV} : (r.e cx o es fun o es => r.e cx i es fun i es => opt (setItemTV es.cells o i v) fun cells => Q { es with cells := cells }) → AsgT' G r cx es Q (.Subscript o i p) v
noncomputable abbrev AsgT (G : TG) (r : Rec) (cx : Cx) (e : Expr) (v : TV) (es : ES) (Q : ES → Prop) : Prop := AsgT' G r cx es Q e v

noncomputable def asgAll (G : TG) (r : Rec) (cx : Cx) (ts : List Expr) (v : TV) : ES → (ES → Prop) → Prop :=
  @List.rec Expr (fun _ => ES → (ES → Prop) → Prop) (fun es Q => Q es) (fun t _ ih es Q => AsgT G r cx t v es fun es => ih es Q) ts

/-- what is assigned to one target: as it is, or a list made here that is to be changed later -/
inductive AsgV (r : Rec) (cx : Cx) (es : ES) (Q : TV → ES → Prop) : Expr → Prop
  | plain {v : Expr} : (∀ t l env, swapsWith v t l env = pure false) → r.e cx v es Q → AsgV r cx es Q v
  | comp {elt : Expr} {gens : List Comprehension} {sc' : Scope} {p : Pos} : evComp r cx elt gens sc' es Q → AsgV r cx es Q (.ListComp elt gens sc' p)
  | list {elts : List Expr} {p : Pos} : (evL r cx elts es fun vs es => vs.length ≤ lim ∧ Q (.ref (frzs vs es.cells).2.length) { es with cells := (frzs vs es.cells).2 ++ [.list (frzs vs es.cells).1] }) → AsgV r cx es Q (.List elts p)
  | lcomp {elt : Expr} {gens : List Comprehension} {sc' : Scope} {p : Pos} : (evComp r cx elt gens sc' es fun v es => ∃ xs, v = .list xs ∧ Q (.ref es.cells.length) { es with cells := es.cells ++ [.list xs] }) → AsgV r cx es Q (.ListComp elt gens sc' p)

noncomputable def forLoop (r : Rec) (cx : Cx) (t : Expr) (k : WK) (src : TV) (all : List TV) (body : List Stmt) (xs : List TV) : ES → (TF → ES → Prop) → Prop :=
  @List.rec TV (fun _ => ES → (TF → ES → Prop) → Prop) (fun es Q => stands k es.cells src all ∧ Q .next es)
    (fun x _ ih es Q => stands k es.cells src all ∧ BindT cx t x es fun es => r.s cx body es fun fl es => @TF.rec (fun _ => Prop) (ih es Q) (Q .next es) (ih es Q) (fun v => Q (.ret v) es) False fl) xs

noncomputable def noExc (fl : TF) : Prop := @TF.rec (fun _ => Prop) True True True (fun _ => True) False fl

/-- a while's turn: what comes behind it -/
noncomputable def turnK (I : Nat → ES → Prop) (Q : TF → ES → Prop) (k : Nat) (fl : TF) (es : ES) : Prop := @TF.rec (fun _ => Prop) (∃ m, m < k ∧ I m es) (Q .next es) (∃ m, m < k ∧ I m es) (fun v => Q (.ret v) es) False fl
noncomputable def elseK (Q : TF → ES → Prop) (fl : TF) (es : ES) : Prop := noExc fl ∧ Q fl es
noncomputable def whileTurn (r : Rec) (cx : Cx) (test : Expr) (body orelse : List Stmt) (I : Nat → ES → Prop) (Q : TF → ES → Prop) (k : Nat) (es : ES) : Prop :=
  r.t cx test es fun b es => if b = true then r.s cx body es (turnK I Q k) else r.s cx orelse es (elseK Q)

noncomputable def whileLoop (r : Rec) (cx : Cx) (test : Expr) (body orelse : List Stmt) (es : ES) (Q : TF → ES → Prop) : Prop :=
  ∃ (I : Nat → ES → Prop) (n : Nat), I n es ∧ ∀ k es, I k es → whileTurn r cx test body orelse I Q k es

/-- the one step of an iterator that may be at its end: «try: x = it(); break; except StopIteration: ..» -/
noncomputable def nextTry (G : TG) (r : Rec) (cx : Cx) (x : Str) (f : Expr) (hb : List Stmt) (es : ES) (Q : TF → ES → Prop) : Prop :=
  cx.hn = true ∧ (∀ p env, eval (.Call f [] [] p) env = do let x ← eval f env; callWith p x [] (backTo p (starEach [] env)) (backToKw p (keywordEach [] env))) ∧ r.e cx f es fun fv es => ∃ n src pos xs, fv = .bm n "list_iterator.__next__" ∧ es.cells[n]? = some (.iter src pos) ∧ es.cells[src]? = some (.list xs) ∧
    ((∃ v, xs[pos]? = some v ∧ storeTV cx x v { es with cells := es.cells.set n (.iter src (pos + 1)) } fun es => Q .brk es) ∨
      (xs[pos]? = none ∧ nameTV G cx.sc es.loc "StopIteration" = some (.g (.type "StopIteration")) ∧ r.s { cx with hn := false } hb { es with cells := es.cells.set n .dead } (elseK Q)))

noncomputable def bindPos (f : FnI) (args : List TV) : Option (List (Str × TV)) :=
  if args.length ≤ lim ∧ (args.length ≤ f.params.length ∨ f.vararg.isSome = true) ∧ f.params.length - args.length ≤ f.defaults.length then
    some (f.params.zip (args.take f.params.length ++ (f.defaults.drop (f.defaults.length - (f.params.length - args.length))).filterMap constTV)) else none
noncomputable def varL (f : FnI) (args : List TV) : List (Str × TV) := f.vararg.toList.map fun a => (a, .tup (args.drop f.params.length))
noncomputable def kwL (f : FnI) (n : Nat) : List (Str × TV) := f.kwarg.toList.map fun a => (a, .ref n)
noncomputable def kwC (f : FnI) : List Cell := f.kwarg.toList.map fun _ => .dict [] false
noncomputable def bindAll (f : FnI) (args : List TV) (cells : List Cell) (Q : (Str → Option TV) → List Cell → Prop) : Prop :=
  opt (bindPos f args) fun l => Q (lookD (l ++ varL f args ++ kwL f cells.length)) (cells ++ kwC f)

/-- a method that may raise, caught here: «try: o.m() except CycleError: ..» -/
noncomputable def tryCyc (G : TG) (r : Rec) (cx : Cx) (o m : Str) (hb : List Stmt) (es : ES) (Q : TF → ES → Prop) : Prop :=
  cx.hn = true ∧ opt (nameTV G cx.sc es.loc o) fun ov => opt (methOf G es.cells ov m) fun fv => ∃ name f, fv = .fn name ∧ G.kind name = some (.fn f) ∧
    bindAll f [ov] es.cells fun loc cells => r.s ⟨f.scope, cx.hn⟩ f.body ⟨loc, cells⟩ fun fl es' => @TF.rec (fun _ => Prop) (Q .next { es with cells := es'.cells }) False False (fun _ => Q .next { es with cells := es'.cells })
      (nameTV G cx.sc es.loc "CycleError" = some (.fn "CycleError") ∧ G.kind "CycleError" = some .exc ∧ r.s { cx with hn := false } hb { es with cells := es'.cells } (elseK Q)) fl

inductive StepS' (G : TG) (r : Rec) (cx : Cx) (es : ES) (Q : TF → ES → Prop) : Stmt → Prop
  | expr {v : Expr} {p : Pos} : (∀ t l env, swapsWith v t l env = pure false) → (r.e cx v es fun _ es => Q .next es) → StepS' G r cx es Q (.Expr v p)
  | pass {p : Pos} : Q .next es → StepS' G r cx es Q (.Pass p)
  | brk {p : Pos} : Q .brk es → StepS' G r cx es Q (.Break p)
  | cont {p : Pos} : Q .cont es → StepS' G r cx es Q (.Continue p)
  | ret0 {p : Pos} : Q (.ret .none) es → StepS' G r cx es Q (.Return none p)
  | ret {v : Expr} {p : Pos} : (r.e cx v es fun v es => Q (.ret (frz v es.cells).1) { es with cells := (frz v es.cells).2 }) → StepS' G r cx es Q (.Return (some v) p)
  | disp {a b : Str} {pa pb tp vp p : Pos} {k k' : Nat} {v u : Expr} : cx.hn = true → cx.sc.names.lookup a = some .local → cx.sc.names.lookup b = some .local →
      (∀ env : Env, env.scope.kind = .function → env.kindOf a = some .local → env.kindOf b = some .local → swappedStores [.Tuple [.Name a pa, .Name b pb] k tp] (.Tuple [v, u] k' vp) env = pure (some [a, b])) →
      (evL r cx [v, u] es fun vs es => ∃ x y, vs = [x, y] ∧ storeTV cx b y es fun es => storeTV cx a x es fun es => Q .next es) → StepS' G r cx es Q (.Assign [.Tuple [.Name a pa, .Name b pb] k tp] (.Tuple [v, u] k' vp) p)
  | asg {t v : Expr} {p : Pos} : (∀ env, swappedStores [t] v env = pure none) → AsgV r cx es (fun x es => AsgT G r cx t x es fun es => Q .next es) v → StepS' G r cx es Q (.Assign [t] v p)
  | asg2 {t t' v : Expr} {p : Pos} : (∀ env, swappedStores [t, t'] v env = pure none) → (∀ env, (assignEach [t, t'] env).map (·.2) = [assign t env, assign t' env]) → (r.e cx v es fun x es => asgAll G r cx [t, t'] x es fun es => Q .next es) → StepS' G r cx es Q (.Assign [t, t'] v p)
  | augA {o v : Expr} {a : Str} {p' p : Pos} : (r.e cx o es fun o es => opt (attrTV G es.cells o a) fun old => r.e cx v es fun v es => ∃ i j cells, old = .int i ∧ v = .int j ∧ SetA G es.cells o a (.int (i + j)) cells ∧ Q .next { es with cells := cells }) →
      StepS' G r cx es Q (.AugAssign (.Attribute o a p') .Add v p)
  | augS {o v : Expr} {a : Str} {p' p : Pos} : (r.e cx o es fun o es => opt (attrTV G es.cells o a) fun old => r.e cx v es fun v es => ∃ i j cells, old = .int i ∧ v = .int j ∧ SetA G es.cells o a (.int (i - j)) cells ∧ Q .next { es with cells := cells }) →
      StepS' G r cx es Q (.AugAssign (.Attribute o a p') .Sub v p)
  | if_ {t : Expr} {a b : List Stmt} {p : Pos} : (r.t cx t es fun c es => if c then r.s cx a es Q else r.s cx b es Q) → StepS' G r cx es Q (.If t a b p)
  | for_ {t it : Expr} {body : List Stmt} {p : Pos} : cx.hn = true → (∀ env x, foldedSetIterable it env x = pure x) → (r.e cx it es fun src es => walks es src fun k xs es => forLoop r cx t k src xs body xs es Q) → StepS' G r cx es Q (.For t it body [] p)
  | while_ {t : Expr} {body orelse : List Stmt} {p : Pos} : whileLoop r cx t body orelse es Q → StepS' G r cx es Q (.While t body orelse p)
  | assert {t : Expr} {m : Option Expr} {p : Pos} : (r.t cx t es fun b es => b = true ∧ Q .next es) → StepS' G r cx es Q (.Assert t m p)
  | del {o i : Expr} {p' p : Pos} : (r.e cx o es fun o es => r.e cx i es fun i es => opt (delItemTV es.cells o i) fun cells => Q .next { es with cells := cells }) → StepS' G r cx es Q (.Delete [.Subscript o i p'] p)
  | next {x : Str} {f : Expr} {px cp ap bp ep hp p : Pos} {b₀ : Stmt} {hb : List Stmt} : nextTry G r cx x f (b₀ :: hb) es Q →
      StepS' G r cx es Q (.Try [.Assign [.Name x px] (.Call f [] [] cp) ap, .Break bp] [.ExceptHandler (some (.Name "StopIteration" ep)) none (b₀ :: hb) hp] [] [] p)
  | cyc {o m : Str} {op apos cpos epos ep hp p : Pos} {b₀ : Stmt} {hb : List Stmt} : apos.endLine = cpos.line → tryCyc G r cx o m (b₀ :: hb) es Q →
      StepS' G r cx es Q (.Try [.Expr (.Call (.Attribute (.Name o op) m apos) [] [] cpos) epos] [.ExceptHandler (some (.Name "CycleError" ep)) none (b₀ :: hb) hp] [] [] p)
  | raise {np cp p : Pos} {a : Expr} {args : List Expr} : nameTV G cx.sc es.loc "CycleError" = some (.fn "CycleError") → G.kind "CycleError" = some .exc → (∀ env, (backTo cp (starEach (a :: args) env)).any (·.1) = false) → loneOk (a :: args) = true → cx.hn = true →
      (evL r cx (a :: args) es fun vs es => vs.length ≤ lim ∧ Q .exc es) → StepS' G r cx es Q (.Raise (some (.Call (.Name "CycleError" np) (a :: args) [] cp)) none p)
noncomputable abbrev StepS (G : TG) (r : Rec) (cx : Cx) (e : Stmt) (es : ES) (Q : TF → ES → Prop) : Prop := StepS' G r cx es Q e

/-- behind a statement -/
noncomputable def seqK (E : ES → (TF → ES → Prop) → Prop) (Q : TF → ES → Prop) (fl : TF) (es : ES) : Prop := @TF.rec (fun _ => Prop) (E es Q) (Q .brk es) (Q .cont es) (fun v => Q (.ret v) es) (Q .exc es) fl
noncomputable def evSs (G : TG) (r : Rec) (cx : Cx) (l : List Stmt) : ES → (TF → ES → Prop) → Prop :=
  @List.rec Stmt (fun _ => ES → (TF → ES → Prop) → Prop) (fun es Q => Q .next es) (fun st _ ih es Q => StepS G r cx st es (seqK ih Q)) l
/-- behind a def's body -/
noncomputable def retK (Q : TV → List Cell → Prop) (fl : TF) (es : ES) : Prop := @TF.rec (fun _ => Prop) (Q .none es.cells) False False (fun v => Q v es.cells) False fl

noncomputable def callFn (r : Rec) (hn : Bool) (f : FnI) (args : List TV) (cells : List Cell) (Q : TV → List Cell → Prop) : Prop :=
  bindAll f args cells fun loc cells => r.s ⟨f.scope, hn⟩ f.body ⟨loc, cells⟩ (retK Q)

inductive StepC (G : TG) (r : Rec) (hn : Bool) (args : List TV) (cells : List Cell) (Q : TV → List Cell → Prop) : TV → Prop
  | fn {name : Str} {f : FnI} : G.kind name = some (.fn f) → callFn r hn f args cells Q → StepC G r hn args cells Q (.fn name)
  | cls {name init : Str} : G.kind name = some (.cls (some init)) → (r.c hn (.fn init) (.ref (cells.length + 1) :: args) (cells ++ [.ns [], .obj name cells.length]) fun v cells' => v = .none ∧ Q (.ref (cells.length + 1)) cells') → StepC G r hn args cells Q (.fn name)
  | slotted {name init : Str} {names : List Str} : G.kind name = some (.slotted init names) → (r.c hn (.fn init) (.ref cells.length :: args) (cells ++ [.slots name (names.map fun _ => none)]) fun v cells' => v = .none ∧ Q (.ref cells.length) cells') → StepC G r hn args cells Q (.fn name)

noncomputable def rec0 : Rec := ⟨fun _ _ _ _ => False, fun _ _ _ _ => False, fun _ _ _ _ => False, fun _ _ _ _ _ => False⟩
noncomputable def stepR (G : TG) (r : Rec) : Rec := ⟨StepE G r, StepT G r, evSs G r, fun hn f args cells Q => StepC G r hn args cells Q f⟩
noncomputable def ev (G : TG) : Nat → Rec
  | 0 => rec0
  | n + 1 => stepR G (ev G n)

/-- the goal, put by while a hypothesis is taken apart -/
theorem hide {G : Prop} (h : ¬ G → False) : G := Classical.byContradiction h
end

section
open PySem PySem.W PyProof.Rows

/-- what is seen of a state: the things that stand for good, the changing things' places, the strs' tokens -/
structure Wd where
  V : Addr → Obj → Prop
  am : List Addr
  T : Nat → Option Str

structure Wd.Le (W W' : Wd) : Prop where
  v : ∀ a o, W.V a o → W'.V a o
  am : ∀ {n : Nat} {a : Addr}, W.am[n]? = some a → W'.am[n]? = some a
  t : ∀ t s, W.T t = some s → W'.T t = some s

theorem Wd.Le.refl (W : Wd) : W.Le W := ⟨fun _ _ h => h, fun h => h, fun _ _ h => h⟩
theorem Wd.Le.trans {W W' W'' : Wd} (h : W.Le W') (h' : W'.Le W'') : W.Le W'' := ⟨fun a o x => h'.v a o (h.v a o x), fun x => h'.am (h.am x), fun t s x => h'.t t s (h.t t s x)⟩
theorem at_old {α : Type} {am : List α} {b : α} {n : Nat} {a : α} (e : am[n]? = some a) : (am ++ [b])[n]? = some a := (List.getElem?_append_left (List.getElem?_eq_some_iff.mp e).1).trans e

noncomputable def gOk : Value → Bool
  | .type _ => true
  | .builtin _ => true
  | _ => false

noncomputable abbrev listObj (vs : List Value) (n : Nat) : Obj := { cls := .type "list", data := .seq vs.toArray n }
noncomputable abbrev tupObj (vs : List Value) (n : Nat) : Obj := { cls := .type "tuple", data := .seq vs.toArray n }
noncomputable abbrev rngObj (lo hi st : Int) (t u v : Tok) : Obj := { cls := .type "range", dict := none, data := .fields #[.int lo t, .int hi u, .int st v], slots := #[] }
noncomputable abbrev valsObj (d : Addr) : Obj := { cls := .type "dict_values", data := .fields #[.ref d] }
noncomputable def bmCls (m : String) : String := if m = "list_iterator.__next__" then "method-wrapper" else "builtin_function_or_method"

/-- related one by one -/
noncomputable def F2 {α β : Type} (R : α → β → Prop) (xs : List α) : List β → Prop :=
  @List.rec α (fun _ => List β → Prop) (fun ys => ys = []) (fun x _ ih ys => ∃ y us, ys = y :: us ∧ R x y ∧ ih us) xs
section
variable {α β : Type} {R S : α → β → Prop}
theorem F2.nil : F2 R [] [] := rfl
theorem F2.cons {x : α} {y : β} {xs : List α} {ys : List β} (a : R x y) (b : F2 R xs ys) : F2 R (x :: xs) (y :: ys) := ⟨y, ys, rfl, a, b⟩
theorem F2.imp (h : ∀ x y, R x y → S x y) (xs : List α) : ∀ ys, F2 R xs ys → F2 S xs ys :=
  @List.rec α (fun xs => ∀ ys, F2 R xs ys → F2 S xs ys) (fun _ e => e) (fun _ _ ih _ => Exists.imp fun _ => Exists.imp fun _ => And.imp_right (And.imp (h _ _) (ih _))) xs
theorem F2.ind {motive : List α → List β → Prop} (nil : motive [] []) (cons : ∀ x y xs ys, R x y → F2 R xs ys → motive xs ys → motive (x :: xs) (y :: ys)) {xs : List α} {ys : List β} (h : F2 R xs ys) : motive xs ys := by
  induction xs generalizing ys with
  | nil => exact Eq.ndrec (motive := fun ys => motive [] ys) nil (show ys = [] from h).symm
  | cons x xs ih =>
    obtain ⟨y, us, rfl, a, b⟩ := h
    exact cons x y xs us a b (ih b)
theorem F2.length {xs : List α} {ys : List β} (h : F2 R xs ys) : ys.length = xs.length := @F2.ind α β R (fun xs ys => ys.length = xs.length) rfl (fun _ _ _ _ _ _ e => congrArg Nat.succ e) xs ys h
theorem F2.get {xs : List α} {ys : List β} (h : F2 R xs ys) : ∀ {i : Nat} {x : α}, xs[i]? = some x → ∃ y, ys[i]? = some y ∧ R x y := by
  refine F2.ind (motive := fun xs ys => ∀ {i : Nat} {x : α}, xs[i]? = some x → ∃ y, ys[i]? = some y ∧ R x y) (fun e => nomatch e) (fun x y xs ys a _ ih i z e => ?_) h
  cases i with
  | zero => exact ⟨y, rfl, Option.some.inj (show some x = some z from e) ▸ a⟩
  | succ i => exact ih (i := i) e
theorem F2.getv {xs : List α} {ys : List β} (h : F2 R xs ys) : ∀ {i : Nat} {y : β}, ys[i]? = some y → ∃ x, xs[i]? = some x ∧ R x y := by
  refine F2.ind (motive := fun xs ys => ∀ {i : Nat} {y : β}, ys[i]? = some y → ∃ x, xs[i]? = some x ∧ R x y) (fun e => nomatch e) (fun x y xs ys a _ ih i z e => ?_) h
  cases i with
  | zero => exact ⟨x, rfl, Option.some.inj (show some y = some z from e) ▸ a⟩
  | succ i => exact ih (i := i) e
theorem F2.append {xs xs' : List α} {ys ys' : List β} (h : F2 R xs ys) (h' : F2 R xs' ys') : F2 R (xs ++ xs') (ys ++ ys') :=
  F2.ind (motive := fun xs ys => F2 R (xs ++ xs') (ys ++ ys')) h' (fun _ _ _ _ a _ ih => .cons a ih) h
theorem F2.one {x : α} {y : β} (h : R x y) : F2 R [x] [y] := .cons h .nil
theorem F2.take {xs : List α} {ys : List β} (n : Nat) (h : F2 R xs ys) : F2 R (xs.take n) (ys.take n) := by
  refine F2.ind (motive := fun xs ys => ∀ n, F2 R (xs.take n) (ys.take n)) (fun n => ?_) (fun x y xs ys a _ ih n => ?_) h n
  · rw [List.take_nil, List.take_nil]; exact .nil
  · cases n with
    | zero => exact .nil
    | succ n => exact .cons a (ih n)
theorem F2.drop {xs : List α} {ys : List β} (n : Nat) (h : F2 R xs ys) : F2 R (xs.drop n) (ys.drop n) := by
  refine F2.ind (motive := fun xs ys => ∀ n, F2 R (xs.drop n) (ys.drop n)) (fun n => ?_) (fun x y xs ys a b ih n => ?_) h n
  · rw [List.drop_nil, List.drop_nil]; exact .nil
  · cases n with
    | zero => exact .cons a b
    | succ n => exact ih n
theorem F2.filterMap {xs : List α} {ys : List β} (h : F2 R xs ys) (l : List Nat) : F2 R (l.filterMap fun i => xs[i]?) (l.filterMap fun i => ys[i]?) := by
  induction l with
  | nil => exact .nil
  | cons i l ih =>
    rw [List.filterMap_cons, List.filterMap_cons]
    cases e : xs[i]? with
    | none =>
      rw [List.getElem?_eq_none_iff.mpr (show ys.length ≤ i from h.length ▸ List.getElem?_eq_none_iff.mp e)]
      exact ih
    | some x =>
      obtain ⟨y, e', r⟩ := h.get e
      rw [e']
      exact .cons r ih
end

/-- a value stands for what a name holds -/
noncomputable def Rp (ad : Str → Option Addr) (W : Wd) (x : TV) : Value → Prop := @TV.rec (fun _ => Value → Prop) (fun _ => List Value → Prop)
  (fun v => v = .none) (fun b v => v = .bool b) (fun i v => ∃ t : Nat, v = .int i t) (fun s v => ∃ t : Nat, v = .str s t ∧ W.T t = some s)
  (fun _ ih v => ∃ a vs n, v = .ref a ∧ W.V a (listObj vs n) ∧ ih vs) (fun _ ih v => ∃ a vs n, v = .ref a ∧ W.V a (tupObj vs n) ∧ ih vs)
  (fun lo hi st v => ∃ a t u w, v = .ref a ∧ W.V a (rngObj lo hi st t u w)) (fun s v => ∃ t : Nat, v = .str s t ∧ PyData.strOk s = true)
  (fun n v => ∃ a, v = .ref a ∧ W.am[n]? = some a) (fun n v => ∃ d a o, v = .ref a ∧ W.am[n]? = some d ∧ W.V a o ∧ o.cls = .type "dict_values" ∧ o.data = .fields #[.ref d])
  (fun n m v => ∃ c a o, v = .ref a ∧ W.am[n]? = some c ∧ W.V a o ∧ o.cls = .type (bmCls m) ∧ o.data = .fields #[.builtin m, .ref c])
  (fun x v => ∃ a, v = .ref a ∧ ad x = some a) (fun u v => v = u ∧ gOk u = true)
  (fun vs => vs = []) (fun _ _ ihx ih vs => ∃ v us, vs = v :: us ∧ ihx v ∧ ih us) x
noncomputable def RpI (ad : Str → Option Addr) (W : Wd) (x : List TV) : List Value → Prop := @TV.rec_1 (fun _ => Value → Prop) (fun _ => List Value → Prop)
  (fun v => v = .none) (fun b v => v = .bool b) (fun i v => ∃ t : Nat, v = .int i t) (fun s v => ∃ t : Nat, v = .str s t ∧ W.T t = some s)
  (fun _ ih v => ∃ a vs n, v = .ref a ∧ W.V a (listObj vs n) ∧ ih vs) (fun _ ih v => ∃ a vs n, v = .ref a ∧ W.V a (tupObj vs n) ∧ ih vs)
  (fun lo hi st v => ∃ a t u w, v = .ref a ∧ W.V a (rngObj lo hi st t u w)) (fun s v => ∃ t : Nat, v = .str s t ∧ PyData.strOk s = true)
  (fun n v => ∃ a, v = .ref a ∧ W.am[n]? = some a) (fun n v => ∃ d a o, v = .ref a ∧ W.am[n]? = some d ∧ W.V a o ∧ o.cls = .type "dict_values" ∧ o.data = .fields #[.ref d])
  (fun n m v => ∃ c a o, v = .ref a ∧ W.am[n]? = some c ∧ W.V a o ∧ o.cls = .type (bmCls m) ∧ o.data = .fields #[.builtin m, .ref c])
  (fun x v => ∃ a, v = .ref a ∧ ad x = some a) (fun u v => v = u ∧ gOk u = true)
  (fun vs => vs = []) (fun _ _ ihx ih vs => ∃ v us, vs = v :: us ∧ ihx v ∧ ih us) x
noncomputable abbrev RpL (ad : Str → Option Addr) (W : Wd) : List TV → List Value → Prop := F2 (Rp ad W)

section
variable {ad : Str → Option Addr} {W W' : Wd}
theorem rpI_eq (xs : List TV) : RpI ad W xs = RpL ad W xs := by
  induction xs with
  | nil => rfl
  | cons x xs ih => exact congrArg (fun (p : List Value → Prop) vs => ∃ v us, vs = v :: us ∧ Rp ad W x v ∧ p us) ih
theorem Rp.listE {xs : List TV} : Rp ad W (.list xs) = fun v => ∃ a vs n, v = .ref a ∧ W.V a (listObj vs n) ∧ RpL ad W xs vs := congrArg (fun (p : List Value → Prop) (v : Value) => ∃ a vs n, v = Value.ref a ∧ W.V a (listObj vs n) ∧ p vs) (rpI_eq xs)
theorem Rp.tupE {xs : List TV} : Rp ad W (.tup xs) = fun v => ∃ a vs n, v = .ref a ∧ W.V a (tupObj vs n) ∧ RpL ad W xs vs := congrArg (fun (p : List Value → Prop) (v : Value) => ∃ a vs n, v = Value.ref a ∧ W.V a (tupObj vs n) ∧ p vs) (rpI_eq xs)
theorem Rp.listI {xs : List TV} {v : Value} (h : Rp ad W (.list xs) v) : ∃ a vs n, v = .ref a ∧ W.V a (listObj vs n) ∧ RpL ad W xs vs := Eq.mp (congrFun Rp.listE v) h
theorem Rp.tupI {xs : List TV} {v : Value} (h : Rp ad W (.tup xs) v) : ∃ a vs n, v = .ref a ∧ W.V a (tupObj vs n) ∧ RpL ad W xs vs := Eq.mp (congrFun Rp.tupE v) h
theorem Rp.list {a xs vs n} (e : W.V a (listObj vs n)) (q : RpL ad W xs vs) : Rp ad W (.list xs) (.ref a) := Eq.mpr (congrFun Rp.listE (.ref a)) ⟨a, vs, n, rfl, e, q⟩
theorem Rp.tup {a xs vs n} (e : W.V a (tupObj vs n)) (q : RpL ad W xs vs) : Rp ad W (.tup xs) (.ref a) := Eq.mpr (congrFun Rp.tupE (.ref a)) ⟨a, vs, n, rfl, e, q⟩
theorem Rp.none : Rp ad W .none .none := rfl
theorem Rp.bool (b) : Rp ad W (.bool b) (.bool b) := rfl
theorem Rp.int (i t) : Rp ad W (.int i) (.int i t) := ⟨t, rfl⟩
theorem Rp.str {s t} (e : W.T t = some s) : Rp ad W (.str s) (.str s t) := ⟨t, rfl, e⟩
theorem Rp.su {s t} (e : PyData.strOk s = true) : Rp ad W (.su s) (.str s t) := ⟨t, rfl, e⟩
theorem Rp.rng {a lo hi st t u v} (e : W.V a (rngObj lo hi st t u v)) : Rp ad W (.rng lo hi st) (.ref a) := ⟨a, t, u, v, rfl, e⟩
theorem Rp.ref {n a} (e : W.am[n]? = some a) : Rp ad W (.ref n) (.ref a) := ⟨a, rfl, e⟩
theorem Rp.vals {n d a o} (e : W.am[n]? = some d) (e' : W.V a o) (c : o.cls = .type "dict_values") (q : o.data = .fields #[.ref d]) : Rp ad W (.vals n) (.ref a) := ⟨d, a, o, rfl, e, e', c, q⟩
theorem Rp.bm {n c a m o} (e : W.am[n]? = some c) (e' : W.V a o) (k : o.cls = .type (bmCls m)) (q : o.data = .fields #[.builtin m, .ref c]) : Rp ad W (.bm n m) (.ref a) := ⟨c, a, o, rfl, e, e', k, q⟩
theorem Rp.fn {x a} (e : ad x = some a) : Rp ad W (.fn x) (.ref a) := ⟨a, rfl, e⟩
theorem Rp.g {v} (e : gOk v = true) : Rp ad W (.g v) v := ⟨rfl, e⟩
theorem Rp.mono (h : W.Le W') {x : TV} {v : Value} (r : Rp ad W x v) : Rp ad W' x v :=
  @TV.rec (fun x => ∀ v, Rp ad W x v → Rp ad W' x v) (fun xs => ∀ vs, RpI ad W xs vs → RpI ad W' xs vs) (fun _ e => e) (fun _ _ e => e) (fun _ _ e => e) (fun _ _ => Exists.imp fun _ => And.imp_right (h.t _ _))
    (fun _ ih _ => Exists.imp fun _ => Exists.imp fun _ => Exists.imp fun _ => And.imp_right (And.imp (h.v _ _) (ih _))) (fun _ ih _ => Exists.imp fun _ => Exists.imp fun _ => Exists.imp fun _ => And.imp_right (And.imp (h.v _ _) (ih _)))
    (fun _ _ _ _ => Exists.imp fun _ => Exists.imp fun _ => Exists.imp fun _ => Exists.imp fun _ => And.imp_right (h.v _ _)) (fun _ _ e => e) (fun _ _ => Exists.imp fun _ => And.imp_right h.am)
    (fun _ _ => Exists.imp fun _ => Exists.imp fun _ => Exists.imp fun _ => And.imp_right (And.imp h.am (And.imp_left (h.v _ _)))) (fun _ _ _ => Exists.imp fun _ => Exists.imp fun _ => Exists.imp fun _ => And.imp_right (And.imp h.am (And.imp_left (h.v _ _))))
    (fun _ _ e => e) (fun _ _ e => e) (fun _ e => e) (fun _ _ a b _ => Exists.imp fun _ => Exists.imp fun _ => And.imp_right (And.imp (a _) (b _))) x v r
theorem RpL.mono (h : W.Le W') {xs : List TV} {vs : List Value} (r : RpL ad W xs vs) : RpL ad W' xs vs := F2.imp (fun _ _ => Rp.mono h) xs vs r
theorem RpL.strs {ss : List Str} {vs : List Value} (h : RpL ad W (ss.map .str) vs) : StrsAre vs ss ∧ ∀ v ∈ vs, ∃ s t, v = .str s t ∧ W.T t = some s := by
  induction ss generalizing vs with
  | nil => rw [show vs = [] from h]; exact ⟨.nil, fun _ h => nomatch h⟩
  | cons x ss ih =>
    obtain ⟨_, us, rfl, ⟨t, rfl, e⟩, b⟩ := h
    refine ⟨.cons _ _ (ih b).1, fun v hv => ?_⟩
    rcases List.mem_cons.mp hv with rfl | hv
    · exact ⟨_, _, rfl, e⟩
    · exact (ih b).2 v hv
theorem RpL.ints {ns : List Int} {vs : List Value} (h : RpL ad W (ns.map .int) vs) : IntsAre vs ns := by
  induction ns generalizing vs with
  | nil => rw [show vs = [] from h]; exact .nil
  | cons x ns ih =>
    obtain ⟨_, us, rfl, ⟨t, rfl⟩, b⟩ := h
    exact .cons _ _ (ih b)
end
/-- a table of strs: an instance's names -/
noncomputable abbrev NsR (ad : Str → Option Addr) (W : Wd) : List (Str × TV) → List DictEntry → Prop := F2 fun p e => (∃ t, e.key = .str p.1 t) ∧ Rp ad W p.2 e.val
/-- a dict's pairs -/
noncomputable abbrev KvR (ad : Str → Option Addr) (W : Wd) : List (Str × TV) → List (Str × Value) → Prop := F2 fun p q => (q.1 = p.1 ∧ PyData.strOk p.1 = true) ∧ Rp ad W p.2 q.2
noncomputable def SlR (ad : Str → Option Addr) (W : Wd) (xs : List (Option TV)) (vs : List (Option Value)) : Prop := ∀ (i : Nat) (tv : TV), (xs[i]?).join = some tv → ∃ v, (vs[i]?).join = some v ∧ Rp ad W tv v

section
variable {ad : Str → Option Addr} {W W' : Wd}
theorem NsR.mono (h : W.Le W') {k l} (q : NsR ad W k l) : NsR ad W' k l := F2.imp (fun _ _ => And.imp_right (Rp.mono h)) k l q
theorem KvR.mono (h : W.Le W') {k l} (q : KvR ad W k l) : KvR ad W' k l := F2.imp (fun _ _ => And.imp_right (Rp.mono h)) k l q
theorem SlR.mono (h : W.Le W') {xs vs} (q : SlR ad W xs vs) : SlR ad W' xs vs := fun i tv e => (q i tv e).imp fun _ => And.imp_right (Rp.mono h)
end

structure GK where
  prog : Program
  w : World
  B : Heap
  ad : Str → Option Addr
  fr : Frag

noncomputable def SetR (K : GK) (xs : List Str) (o : Obj) : Prop :=
  ∃ es ep t, o.ExactSet ∧ o.data = .set es ep t ∧ ElemsOf (strKind K.prog K.w) es.toList ∧ (∀ k, xs.contains k = true ↔ ∃ e ∈ es.toList, (strKind K.prog K.w).is k e.2 = true) ∧ es.size < scanBound ∧ t.fits es.size = true ∧ es.size = xs.length

noncomputable def CellR (K : GK) (W : Wd) (h : Heap) (a : Addr) : Cell → Prop
  | .dead => True
  | .list xs => ∃ vs n, h.get? a = some (listObj vs n) ∧ RpL K.ad W xs vs
  | .dict kvs _ => ∃ l o, h.get? a = some o ∧ o.IsDictOf (strKind K.prog K.w) l ∧ KvR K.ad W kvs l
  | .set xs _ => ∃ o, h.get? a = some o ∧ SetR K xs o ∧ ∀ x ∈ xs, PyData.strOk x = true
  | .obj c d => ∃ C dx, h.get? a = some (instObj C dx) ∧ K.ad c = some C ∧ W.am[d]? = some dx
  | .ns kvs => ∃ es n, h.get? a = some (dictOf es n) ∧ NsR K.ad W kvs es
  | .slots c xs => ∃ C dx vs, h.get? a = some { cls := .ref C, dict := some dx, data := .plain, slots := vs.toArray } ∧ K.ad c = some C ∧ W.V dx emptyDict ∧ SlR K.ad W xs vs
  | .iter src pos => ∃ l, h.get? a = some { cls := .type "list_iterator", data := .fields #[.ref l, .int pos 0] } ∧ W.am[src]? = some l

theorem CellR.mono {K : GK} {W W' : Wd} {h' h'' : Heap} {a : Addr} (h : W.Le W') (hk : ∀ o, h'.get? a = some o → h''.get? a = some o) {c : Cell} : CellR K W h' a c → CellR K W' h'' a c := by
  cases c with
  | dead => exact id
  | list => exact Exists.imp fun _ => Exists.imp fun _ => And.imp (hk _) (RpL.mono h)
  | dict => exact Exists.imp fun _ => Exists.imp fun _ => And.imp (hk _) (And.imp_right (KvR.mono h))
  | set => exact Exists.imp fun _ => And.imp_left (hk _)
  | obj => exact Exists.imp fun _ => Exists.imp fun _ => And.imp (hk _) (And.imp_right h.am)
  | ns => exact Exists.imp fun _ => Exists.imp fun _ => And.imp (hk _) (NsR.mono h)
  | slots => exact Exists.imp fun _ => Exists.imp fun _ => Exists.imp fun _ => And.imp (hk _) (And.imp_right (And.imp (h.v _ _) (SlR.mono h)))
  | iter => exact Exists.imp fun _ => And.imp (hk _) h.am

/-- the ghost of a state: where the cells lie, which token is which str's -/
structure Gh where
  am : List Addr
  T : Nat → Option Str

/-- it changes no more -/
noncomputable def isFix : Cell → Bool
  | .dead => true
  | .dict _ b => b
  | .set _ b => b
  | _ => false

noncomputable def Live (am : List Addr) (cells : List Cell) (a : Addr) : Prop := ∃ (i : Nat) (c : Cell), am[i]? = some a ∧ cells[i]? = some c ∧ isFix c = false

noncomputable def Gh.wd (g : Gh) (Av : Addr → Prop) (cells : List Cell) (h : Heap) : Wd := ⟨fun a o => h.get? a = some o ∧ ¬ Av a ∧ ¬ Live g.am cells a, g.am, g.T⟩

/-- what stays through a frame: the world's rest, the frames on the stack -/
structure Reg where
  st : Shared
  fr : List Env

/-- a frame's slots may be laid anew; else it is as it was -/
noncomputable def SameFr (o o' : Obj) : Prop := o' = o ∨ ∃ es ep sl, o.data = .dict es ep ∧ o' = { o with slots := sl }
theorem SameFr.refl (o : Obj) : SameFr o o := .inl rfl
theorem SameFr.data {o o' : Obj} (h : SameFr o o') : o'.data = o.data := by
  rcases h with rfl | ⟨_, _, _, _, rfl⟩ <;> rfl
theorem SameFr.trans {o o' o'' : Obj} (h : SameFr o o') (h' : SameFr o' o'') : SameFr o o'' :=
  h.elim (fun e => e ▸ h') fun ⟨es, ep, sl, hd, e⟩ => h'.elim (fun e' => .inr ⟨es, ep, sl, hd, e'.trans e⟩) fun ⟨_, _, sl', _, e'⟩ => .inr ⟨es, ep, sl', hd, by rw [e', e]⟩
theorem SameFr.eq_of {o o' : Obj} (h : SameFr o o') (hn : ∀ es ep, o.data ≠ .dict es ep) : o' = o := h.elim id fun ⟨es, ep, _, hd, _⟩ => absurd hd (hn es ep)
noncomputable def DictAt (h : Heap) (a : Addr) : Prop := ∃ o es ep, h.get? a = some o ∧ o.data = .dict es ep
theorem DictAt.of {h h' : Heap} {a : Addr} (d : DictAt h a) (hk : ∀ o, h.get? a = some o → ∃ o', h'.get? a = some o' ∧ SameFr o o') : DictAt h' a :=
  d.elim fun o d => d.elim fun es d => d.elim fun ep z => (hk o z.1).imp fun _ y => ⟨es, ep, y.1, y.2.data.trans z.2⟩
theorem DictAt.keep {h h' : Heap} {a : Addr} (d : DictAt h a) (hk : ∀ o, h.get? a = some o → h'.get? a = some o) : DictAt h' a := d.of fun o e => ⟨o, hk o e, .inl rfl⟩
theorem DictAt.ns {h : Heap} {a : Addr} {m : Str → Option Value} (hn : h.Ns a m) : DictAt h a := hn.imp fun _ => Exists.imp fun _ => Exists.imp fun _ z => ⟨z.1, z.2.1⟩
theorem ns_same {h h' : Heap} {a : Addr} {m : Str → Option Value} (hn : h.Ns a m) (hk : ∀ o, h.get? a = some o → ∃ o', h'.get? a = some o' ∧ SameFr o o') : h'.Ns a m :=
  hn.elim fun o hn => hn.elim fun es hn => hn.elim fun ep z => (hk o z.1).imp fun _ y => ⟨es, ep, y.1, y.2.data.trans z.2.1, z.2.2⟩

/-- the stack's frames stand, set apart -/
noncomputable def Frm (S0 : Reg) (Av : Addr → Prop) (h : Heap) : Prop := ∀ e ∈ S0.fr, e.scope.kind ≠ .module ∧ ∃ L, e.frame = some L ∧ Av L ∧ DictAt h L
theorem Frm.to {S0 : Reg} {Av Av' : Addr → Prop} {h h' : Heap} (f : Frm S0 Av h) (ha : ∀ a, Av a → DictAt h a → Av' a ∧ DictAt h' a) : Frm S0 Av' h' := fun e he =>
  (f e he).imp_right (Exists.imp fun L => And.imp_right fun z => ha L z.1 z.2)

structure Inv (K : GK) (S0 : Reg) (Av : Addr → Prop) (g : Gh) (cells : List Cell) (s : Shared) : Prop where
  same : ∃ h tk dr, s = { S0.st with heap := h, toks := tk, drawn := dr }
  base : ∀ a o, K.B.get? a = some o → (g.wd Av cells s.heap).V a o
  avs : ∀ a, Av a → ∃ o, s.heap.get? a = some o
  ams : ∀ a ∈ g.am, ∃ o, s.heap.get? a = some o
  len : g.am.length = cells.length
  nodup : g.am.Nodup
  apart : ∀ a ∈ g.am, K.B.get? a = none
  off : ∀ a ∈ g.am, ¬ Av a
  cell : ∀ (i : Nat) (c : Cell) (a : Addr), cells[i]? = some c → g.am[i]? = some a → CellR K (g.wd Av cells s.heap) s.heap a c
  toks : 0 < s.toks
  tt : ∀ t x, g.T t = some x → 0 < t ∧ t < s.toks ∧ PyData.strOk x = true
  frm : Frm S0 Av s.heap

structure Kp (Av F : Addr → Prop) (g : Gh) (cells : List Cell) (s : Shared) (g' : Gh) (cells' : List Cell) (s' : Shared) : Prop where
  le : (g.wd Av cells s.heap).Le (g'.wd Av cells' s'.heap)
  av : ∀ a o, Av a → ¬ F a → s.heap.get? a = some o → ∃ o', s'.heap.get? a = some o' ∧ SameFr o o'
  tk : s.toks ≤ s'.toks
  old : ∀ a o, s.heap.get? a = some o → ∃ o', s'.heap.get? a = some o'

theorem Kp.refl {Av F : Addr → Prop} {g : Gh} {cells : List Cell} {s : Shared} : Kp Av F g cells s g cells s := ⟨.refl _, fun _ o _ _ e => ⟨o, e, .inl rfl⟩, Nat.le_refl _, fun _ o e => ⟨o, e⟩⟩
theorem Kp.trans {Av F : Addr → Prop} {g g' g'' : Gh} {cells cells' cells'' : List Cell} {s s' s'' : Shared} (h : Kp Av F g cells s g' cells' s') (h' : Kp Av F g' cells' s' g'' cells'' s'') : Kp Av F g cells s g'' cells'' s'' :=
  ⟨h.le.trans h'.le, fun a o x y e => (h.av a o x y e).elim fun o1 z => (h'.av a o1 x y z.1).imp fun _ => And.imp_right z.2.trans, Nat.le_trans h.tk h'.tk, fun a o e => (h.old a o e).elim (h'.old a)⟩
theorem Kp.weak {Av F F' : Addr → Prop} {g g' : Gh} {cells cells' : List Cell} {s s' : Shared} (h : Kp Av F g cells s g' cells' s') (hF : ∀ a, F a → F' a) : Kp Av F' g cells s g' cells' s' :=
  ⟨h.le, fun a o x y e => h.av a o x (fun z => y (hF a z)) e, h.tk, h.old⟩

noncomputable abbrev NoF : Addr → Prop := fun _ => False

section
variable {K : GK} {S0 : Reg} {Av : Addr → Prop} {g : Gh} {cells : List Cell} {s : Shared} {h' : Heap} {tk : Nat}

theorem app_at {α : Type} {l : List α} {c d : α} {i : Nat} (h : (l ++ [c])[i]? = some d) : l[i]? = some d ∨ (i = l.length ∧ d = c) := by
  rcases Nat.lt_or_ge i l.length with hi | hi
  · exact .inl ((List.getElem?_append_left hi).symm.trans h)
  · rw [List.getElem?_append_right hi] at h
    cases hk : i - l.length with
    | zero => rw [hk] at h; exact .inr ⟨Nat.le_antisymm (Nat.le_of_sub_eq_zero hk) hi, (Option.some.inj h).symm⟩
    | succ k => rw [hk] at h; cases h
theorem app2 {α β : Type} {l : List α} {m : List β} {c d : α} {a b : β} {i : Nat} (hl : m.length = l.length) (h1 : (l ++ [c])[i]? = some d) (h2 : (m ++ [a])[i]? = some b) : (l[i]? = some d ∧ m[i]? = some b) ∨ (d = c ∧ b = a) :=
  (app_at h1).elim (fun h1 => (app_at h2).elim (fun h2 => .inl ⟨h1, h2⟩) fun h2 => absurd (List.getElem?_eq_some_iff.mp h1).1 (by rw [h2.1, hl]; exact Nat.lt_irrefl _))
    fun h1 => (app_at h2).elim (fun h2 => absurd (List.getElem?_eq_some_iff.mp h2).1 (by rw [h1.1, hl]; exact Nat.lt_irrefl _)) fun h2 => .inr ⟨h1.2, h2.2⟩
theorem mem_app {α : Type} {l : List α} {a b : α} (h : b ∈ l ++ [a]) : b ∈ l ∨ b = a := (List.mem_append.mp h).imp_right List.mem_singleton.mp
theorem set_at {α : Type} {l : List α} {c d : α} {i j : Nat} (h : (l.set i c)[j]? = some d) : (j = i ∧ d = c) ∨ (j ≠ i ∧ l[j]? = some d) := by
  by_cases e : j = i
  · subst e
    have hlt := (List.getElem?_eq_some_iff.mp h).1
    rw [List.length_set] at hlt
    exact .inl ⟨rfl, Option.some.inj (h.symm.trans (List.getElem?_set_self hlt))⟩
  · exact .inr ⟨e, (List.getElem?_set_ne (Ne.symm e)).symm.trans h⟩
theorem nodup_app {α : Type} {l : List α} {a : α} (h : l.Nodup) (ha : a ∉ l) : (l ++ [a]).Nodup :=
  List.nodup_append.mpr ⟨h, List.Pairwise.cons (fun _ z => nomatch z) .nil, fun _ hx _ hy z => ha (by rw [← List.mem_singleton.mp hy, ← z]; exact hx)⟩

theorem Live.mem {am : List Addr} {a : Addr} (h : Live am cells a) : a ∈ am := h.elim fun _ h => h.elim fun _ h => List.mem_of_getElem? h.1

theorem Inv.offAv (I : Inv K S0 Av g cells s) {a : Addr} (hn : s.heap.get? a = none) : ¬ Av a := fun h => (I.avs a h).elim fun _ e => nomatch hn.symm.trans e
theorem Inv.offAm (I : Inv K S0 Av g cells s) {a : Addr} (hn : s.heap.get? a = none) : a ∉ g.am := fun h => (I.ams a h).elim fun _ e => nomatch hn.symm.trans e
theorem Inv.offLive (I : Inv K S0 Av g cells s) {a : Addr} (hn : s.heap.get? a = none) : ¬ Live g.am cells a := fun h => I.offAm hn h.mem

theorem wd_le {Av : Addr → Prop} {g : Gh} {cells : List Cell} {h h' : Heap} (hk : ∀ a o, ¬ Av a → ¬ Live g.am cells a → h.get? a = some o → h'.get? a = some o) : (g.wd Av cells h).Le (g.wd Av cells h') :=
  ⟨fun a o z => ⟨hk a o z.2.1 z.2.2 z.1, z.2⟩, id, fun _ _ => id⟩

/-- the same world with other things -/
theorem Inv.to' {Av' : Addr → Prop} {g' : Gh} {cells' : List Cell} (I : Inv K S0 Av g cells s) (le : (g.wd Av cells s.heap).Le (g'.wd Av' cells' h')) (ht : s.toks ≤ tk) (avs : ∀ a, Av' a → ∃ o, h'.get? a = some o)
    (ams : ∀ a ∈ g'.am, ∃ o, h'.get? a = some o) (len : g'.am.length = cells'.length) (nodup : g'.am.Nodup) (apart : ∀ a ∈ g'.am, K.B.get? a = none) (off : ∀ a ∈ g'.am, ¬ Av' a)
    (cell : ∀ (i : Nat) (c : Cell) (a : Addr), cells'[i]? = some c → g'.am[i]? = some a → CellR K (g'.wd Av' cells' h') h' a c) (tt : ∀ t x, g'.T t = some x → 0 < t ∧ t < tk ∧ PyData.strOk x = true) (frm : Frm S0 Av' h') :
    Inv K S0 Av' g' cells' { s with heap := h', toks := tk } :=
  ⟨I.same.elim fun _ h => h.elim fun _ h => h.elim fun d e => ⟨h', tk, d, by rw [e]⟩, fun a o e => le.v a o (I.base a o e), avs, ams, len, nodup, apart, off, cell, Nat.lt_of_lt_of_le I.toks ht, tt, frm⟩
theorem Inv.to {g' : Gh} {cells' : List Cell} (I : Inv K S0 Av g cells s) (le : (g.wd Av cells s.heap).Le (g'.wd Av cells' h')) (ht : s.toks ≤ tk) (hA : ∀ a o, Av a → s.heap.get? a = some o → h'.get? a = some o)
    (ams : ∀ a ∈ g'.am, ∃ o, h'.get? a = some o) (len : g'.am.length = cells'.length) (nodup : g'.am.Nodup) (apart : ∀ a ∈ g'.am, K.B.get? a = none) (off : ∀ a ∈ g'.am, ¬ Av a)
    (cell : ∀ (i : Nat) (c : Cell) (a : Addr), cells'[i]? = some c → g'.am[i]? = some a → CellR K (g'.wd Av cells' h') h' a c) (tt : ∀ t x, g'.T t = some x → 0 < t ∧ t < tk ∧ PyData.strOk x = true) :
    Inv K S0 Av g' cells' { s with heap := h', toks := tk } :=
  I.to' le ht (fun a e => (I.avs a e).imp fun o => hA a o e) ams len nodup apart off cell tt (I.frm.to fun a ha d => ⟨ha, d.keep fun o => hA a o ha⟩)

theorem Inv.ttl (I : Inv K S0 Av g cells s) (ht : s.toks ≤ tk) (t : Nat) (x : Str) (e : g.T t = some x) : 0 < t ∧ t < tk ∧ PyData.strOk x = true := (I.tt t x e).imp_right (And.imp_left (Nat.lt_of_lt_of_le · ht))

theorem Inv.grow (I : Inv K S0 Av g cells s) (hk : ∀ a o, s.heap.get? a = some o → h'.get? a = some o) (ht : s.toks ≤ tk) :
    Inv K S0 Av g cells { s with heap := h', toks := tk } ∧ Kp Av NoF g cells s g cells { s with heap := h', toks := tk } :=
  have le : (g.wd Av cells s.heap).Le (g.wd Av cells h') := wd_le fun a o _ _ => hk a o
  ⟨I.to le ht (fun a o _ => hk a o) (fun a e => (I.ams a e).imp (hk a)) I.len I.nodup I.apart I.off (fun i c a e q => (I.cell i c a e q).mono le (hk a)) (I.ttl ht), le, fun a o _ _ e => ⟨o, hk a o e, .inl rfl⟩, ht, fun a o e => ⟨o, hk a o e⟩⟩

theorem Inv.newV (I : Inv K S0 Av g cells s) {a : Addr} {o : Obj} (hn : s.heap.get? a = none) (e : h'.get? a = some o) : (g.wd Av cells h').V a o := ⟨e, I.offAv hn, I.offLive hn⟩

theorem get_size (h : Heap) : h.get? h.objs.size = none := Option.eq_none_iff_forall_ne_some.mpr fun _ e => Nat.lt_irrefl _ (Heap.lt_size e)

noncomputable def updT (T : Nat → Option Str) (t : Nat) (x : Str) : Nat → Option Str := fun u => if u = t then some x else T u

theorem Inv.str (I : Inv K S0 Av g cells s) {t : Nat} {x : Str} (h1 : s.toks ≤ t) (h2 : t < tk) (hx : PyData.strOk x = true) (hk : ∀ a o, s.heap.get? a = some o → h'.get? a = some o) :
    Inv K S0 Av ⟨g.am, updT g.T t x⟩ cells { s with heap := h', toks := tk } ∧ Kp Av NoF g cells s ⟨g.am, updT g.T t x⟩ cells { s with heap := h', toks := tk } :=
  have ht : s.toks ≤ tk := Nat.le_of_lt (Nat.lt_of_le_of_lt h1 h2)
  have le : (g.wd Av cells s.heap).Le (Gh.wd ⟨g.am, updT g.T t x⟩ Av cells h') := ⟨fun a o => And.imp_left (hk a o), id, fun u y e => (if_neg fun (z : u = t) => Nat.lt_irrefl u (Nat.lt_of_lt_of_le (I.tt u y e).2.1 (z ▸ h1))).trans e⟩
  ⟨I.to le ht (fun a o _ => hk a o) (fun a e => (I.ams a e).imp (hk a)) I.len I.nodup I.apart I.off (fun i c a e q => (I.cell i c a e q).mono le (hk a)) (fun u y (e : (if u = t then some x else g.T u) = some y) => by
    by_cases hu : u = t
    · rw [if_pos hu] at e
      rw [hu, ← Option.some.inj e]
      exact ⟨Nat.lt_of_lt_of_le I.toks h1, h2, hx⟩
    · rw [if_neg hu] at e
      exact I.ttl ht u y e), le, fun a o _ _ e => ⟨o, hk a o e, .inl rfl⟩, ht, fun a o e => ⟨o, hk a o e⟩⟩

theorem strT (g : Gh) (t : Nat) (x : Str) (Av : Addr → Prop) (cells : List Cell) (h : Heap) (ad : Str → Option Addr) : Rp ad (Gh.wd ⟨g.am, updT g.T t x⟩ Av cells h) (.str x) (.str x t) := .str (if_pos rfl)

theorem live_append {am : List Addr} {a b : Addr} {c : Cell} (hl : am.length = cells.length) (h : Live (am ++ [a]) (cells ++ [c]) b) : Live am cells b ∨ b = a :=
  h.elim fun i h => h.elim fun d z => (app2 hl z.2.1 z.1).imp (fun y => ⟨i, d, y.2, y.1, z.2.2⟩) (·.2)
theorem live_old {am : List Addr} {a b : Addr} {c : Cell} (h : Live am cells b) : Live (am ++ [a]) (cells ++ [c]) b :=
  h.elim fun i h => h.elim fun d z => ⟨i, d, at_old z.1, at_old z.2.1, z.2.2⟩

/-- a new changing thing -/
theorem Inv.newCell (I : Inv K S0 Av g cells s) {a : Addr} {o : Obj} {c : Cell} (hk : ∀ a o, s.heap.get? a = some o → h'.get? a = some o) (ht : s.toks ≤ tk) (hn : s.heap.get? a = none) (e : h'.get? a = some o)
    (hc : (g.wd Av cells s.heap).Le (Gh.wd ⟨g.am ++ [a], g.T⟩ Av (cells ++ [c]) h') → CellR K (Gh.wd ⟨g.am ++ [a], g.T⟩ Av (cells ++ [c]) h') h' a c) :
    Inv K S0 Av ⟨g.am ++ [a], g.T⟩ (cells ++ [c]) { s with heap := h', toks := tk } ∧ Kp Av NoF g cells s ⟨g.am ++ [a], g.T⟩ (cells ++ [c]) { s with heap := h', toks := tk } :=
  have le : (g.wd Av cells s.heap).Le (Gh.wd ⟨g.am ++ [a], g.T⟩ Av (cells ++ [c]) h') := ⟨fun b o z => ⟨hk b o z.1, z.2.1, fun h => (live_append I.len h).elim z.2.2 fun y => by have := z.1; rw [y, hn] at this; cases this⟩, at_old, fun _ _ => id⟩
  ⟨I.to (g' := ⟨g.am ++ [a], g.T⟩) le ht (fun a o _ => hk a o) (fun b hb => (mem_app hb).elim (fun hb => (I.ams b hb).imp (hk b)) fun z => ⟨o, z ▸ e⟩) (by show (g.am ++ [a]).length = _; rw [List.length_append, List.length_append, I.len]; rfl) (nodup_app I.nodup (I.offAm hn))
    (fun b hb => (mem_app hb).elim (I.apart b) fun z => Option.eq_none_iff_forall_ne_some.mpr fun o' q => by have := (I.base _ _ q).1; rw [z, hn] at this; cases this)
    (fun b hb => (mem_app hb).elim (I.off b) fun z => z ▸ I.offAv hn)
    (fun i d b hd hb => (app2 I.len hd hb).elim (fun y => (I.cell i d b y.1 y.2).mono le (hk b)) fun y => by rw [y.1, y.2]; exact hc le) (I.ttl ht), le, fun a o _ _ e => ⟨o, hk a o e, .inl rfl⟩, ht, fun a o e => ⟨o, hk a o e⟩⟩

theorem live_set {am : List Addr} {i : Nat} {a b : Addr} {c : Cell} (ha : am[i]? = some a) (hl : Live am cells a) (h : Live am (cells.set i c) b) : Live am cells b :=
  h.elim fun j h => h.elim fun d z => (set_at z.2.1).elim (fun y => Option.some.inj (ha.symm.trans (y.1 ▸ z.1)) ▸ hl) fun y => ⟨j, d, z.1, y.2, z.2.2⟩
theorem live_set' {am : List Addr} {i : Nat} {a b : Addr} {c : Cell} (ha : am[i]? = some a) (hb : b ≠ a) (h : Live am cells b) : Live am (cells.set i c) b :=
  h.elim fun j h => h.elim fun d z => ⟨j, d, z.1, (List.getElem?_set_ne fun (y : i = j) => hb (Option.some.inj (z.1.symm.trans (y ▸ ha)))).trans z.2.1, z.2.2⟩

theorem Inv.am_inj (I : Inv K S0 Av g cells s) {i j : Nat} {a : Addr} (hi : g.am[i]? = some a) (hj : g.am[j]? = some a) : i = j :=
  (List.getElem_inj (h₀ := (List.getElem?_eq_some_iff.mp hi).1) (h₁ := (List.getElem?_eq_some_iff.mp hj).1) I.nodup).mp ((List.getElem?_eq_some_iff.mp hi).2.trans (List.getElem?_eq_some_iff.mp hj).2.symm)

theorem Inv.addr (I : Inv K S0 Av g cells s) {i : Nat} {c : Cell} (h : cells[i]? = some c) : ∃ a, g.am[i]? = some a :=
  ⟨g.am[i]'(I.len ▸ (List.getElem?_eq_some_iff.mp h).1), List.getElem?_eq_getElem _⟩
theorem Inv.offAt (I : Inv K S0 Av g cells s) {i : Nat} {a : Addr} (ha : g.am[i]? = some a) : ¬ Av a := I.off a (List.mem_of_getElem? ha)

/-- a changing thing changes (or, where c' is dead, stands for good) -/
theorem Inv.setCell (I : Inv K S0 Av g cells s) {i : Nat} {a : Addr} {o' : Obj} {c c' : Cell} (hc : cells[i]? = some c) (ha : g.am[i]? = some a) (hd : isFix c = false)
    (hk : ∀ b o, b ≠ a → s.heap.get? b = some o → h'.get? b = some o) (e : h'.get? a = some o') (ht : s.toks ≤ tk)
    (hr : (g.wd Av cells s.heap).Le (g.wd Av (cells.set i c') h') → CellR K (g.wd Av (cells.set i c') h') h' a c') :
    Inv K S0 Av g (cells.set i c') { s with heap := h', toks := tk } ∧ Kp Av NoF g cells s g (cells.set i c') { s with heap := h', toks := tk } :=
  have hl : Live g.am cells a := ⟨i, c, ha, hc, hd⟩
  have hav : ∀ b o, Av b → s.heap.get? b = some o → h'.get? b = some o := fun b o hb => hk b o fun z => I.offAt ha (z ▸ hb)
  have le : (g.wd Av cells s.heap).Le (g.wd Av (cells.set i c') h') := ⟨fun b o z => ⟨hk b o (fun y => z.2.2 (y ▸ hl)) z.1, z.2.1, fun h => z.2.2 (live_set ha hl h)⟩, id, fun _ _ => id⟩
  have hold : ∀ b o, s.heap.get? b = some o → ∃ o', h'.get? b = some o' := fun b o q => (Classical.em (b = a)).elim (fun hb => ⟨o', hb ▸ e⟩) fun hb => ⟨o, hk b o hb q⟩
  ⟨I.to le ht hav (fun b hb => (I.ams b hb).elim (hold b)) (I.len.trans List.length_set.symm) I.nodup I.apart I.off
    (fun j d b hd' hb => (set_at hd').elim (fun y => by rw [y.1] at hb; rw [y.2, ← Option.some.inj (ha.symm.trans hb)]; exact hr le) fun y => (I.cell j d b y.2 hb).mono le fun o => hk b o fun (z : b = a) => y.1 (I.am_inj hb (z ▸ ha))) (I.ttl ht),
    le, fun b o hb _ q => ⟨o, hav b o hb q, .inl rfl⟩, ht, hold⟩

theorem Inv.killed (I : Inv K S0 Av g cells s) {i : Nat} {a : Addr} {o : Obj} (ha : g.am[i]? = some a) (e : h'.get? a = some o) : (g.wd Av (cells.set i .dead) h').V a o :=
  ⟨e, I.offAt ha, fun h => h.elim fun _ h => h.elim fun _ z => (set_at z.2.1).elim (fun y => nomatch (congrArg isFix y.2).symm.trans z.2.2) fun y => y.1 (I.am_inj z.1 ha)⟩
end

/-- the frame (a def's, or a comprehension's own) and what it holds -/
structure EnvR (ad : Str → Option Addr) (W : Wd) (Av F : Addr → Prop) (env : Env) (sc : Scope) (loc : Str → Option TV) (h : Heap) : Prop where
  kind : env.scope.kind = .function
  kinds : ∀ x k, sc.names.lookup x = some k → env.kindOf x = some k ∨ (k = .free ∧ env.kindOf x = some .cell)
  glob : env.globals = mainGlobals
  bltn : env.builtins = builtinsNs
  fsub : ∀ a, F a → Av a
  locF : F env.locals
  ns : ∃ m, h.Ns env.locals m ∧ ∀ x tv, sc.names.lookup x = some .local → loc x = some tv → ∃ v, m x = some v ∧ Rp ad W tv v
  cellF : ∀ x, sc.names.lookup x = some .cell → ∃ a cv, env.cells.lookup x = some a ∧ h.IsCell a cv ∧ F a ∧ a ≠ env.locals ∧ ∀ tv, loc x = some tv → ∃ v, cv = some v ∧ Rp ad W tv v
  freeF : ∀ x, sc.names.lookup x = some .free → ∃ a cv, env.cells.lookup x = some a ∧ h.IsCell a cv ∧ Av a ∧ ¬ F a ∧ ∀ tv, loc x = some tv → ∃ v, cv = some v ∧ Rp ad W tv v
  apart : ∀ x y a, sc.names.lookup x = some .cell → sc.names.lookup y = some .cell → env.cells.lookup x = some a → env.cells.lookup y = some a → x = y
end

section
open PySem PySem.W PyProof.Rows

@[elab_as_elim] theorem Rp.intE {ad : Str → Option Addr} {W : Wd} {i : Int} {v : Value} {m : Value → Prop} (r : Rp ad W (.int i) v) (h : ∀ t, m (.int i t)) : m v := r.elim fun t e => e ▸ h t
@[elab_as_elim] theorem Rp.strE {ad : Str → Option Addr} {W : Wd} {x : Str} {v : Value} {m : Value → Prop} (r : Rp ad W (.str x) v) (h : ∀ t, W.T t = some x → m (.str x t)) : m v := r.elim fun t z => z.1 ▸ h t z.2
@[elab_as_elim] theorem Rp.suE {ad : Str → Option Addr} {W : Wd} {x : Str} {v : Value} {m : Value → Prop} (r : Rp ad W (.su x) v) (h : ∀ t, PyData.strOk x = true → m (.str x t)) : m v := r.elim fun t z => z.1 ▸ h t z.2
@[elab_as_elim] theorem Rp.refE {ad : Str → Option Addr} {W : Wd} {n : Nat} {v : Value} {m : Value → Prop} (r : Rp ad W (.ref n) v) (h : ∀ a, W.am[n]? = some a → m (.ref a)) : m v := r.elim fun t z => z.1 ▸ h t z.2
@[elab_as_elim] theorem Rp.fnE {ad : Str → Option Addr} {W : Wd} {x : Str} {v : Value} {m : Value → Prop} (r : Rp ad W (.fn x) v) (h : ∀ a, ad x = some a → m (.ref a)) : m v := r.elim fun t z => z.1 ▸ h t z.2
@[elab_as_elim] theorem Rp.gE {ad : Str → Option Addr} {W : Wd} {u v : Value} {m : Value → Prop} (r : Rp ad W (.g u) v) (h : m u) : m v := r.1 ▸ h
@[elab_as_elim] theorem Rp.boolE {ad : Str → Option Addr} {W : Wd} {b : Bool} {v : Value} {m : Value → Prop} (r : Rp ad W (.bool b) v) (h : m (.bool b)) : m v := (show v = .bool b from r) ▸ h
@[elab_as_elim] theorem Rp.noneE {ad : Str → Option Addr} {W : Wd} {v : Value} {m : Value → Prop} (r : Rp ad W .none v) (h : m .none) : m v := (show v = .none from r) ▸ h
@[elab_as_elim] theorem Rp.rngE {ad : Str → Option Addr} {W : Wd} {lo hi st : Int} {v : Value} {m : Value → Prop} (r : Rp ad W (.rng lo hi st) v) (h : ∀ a t u w, W.V a (rngObj lo hi st t u w) → m (.ref a)) : m v :=
  r.elim fun a r => r.elim fun t r => r.elim fun u r => r.elim fun w z => z.1 ▸ h a t u w z.2
@[elab_as_elim] theorem Rp.listE' {ad : Str → Option Addr} {W : Wd} {xs : List TV} {v : Value} {m : Value → Prop} (r : Rp ad W (.list xs) v) (h : ∀ a vs n, W.V a (listObj vs n) → RpL ad W xs vs → m (.ref a)) : m v :=
  r.listI.elim fun a r => r.elim fun vs r => r.elim fun n z => z.1 ▸ h a vs n z.2.1 z.2.2
@[elab_as_elim] theorem Rp.tupE' {ad : Str → Option Addr} {W : Wd} {xs : List TV} {v : Value} {m : Value → Prop} (r : Rp ad W (.tup xs) v) (h : ∀ a vs n, W.V a (tupObj vs n) → RpL ad W xs vs → m (.ref a)) : m v :=
  r.tupI.elim fun a r => r.elim fun vs r => r.elim fun n z => z.1 ▸ h a vs n z.2.1 z.2.2
@[elab_as_elim] theorem RpL.nilE {ad : Str → Option Addr} {W : Wd} {vs : List Value} {m : List Value → Prop} (r : RpL ad W [] vs) (h : m []) : m vs := (show vs = [] from r) ▸ h
@[elab_as_elim] theorem RpL.consE {ad : Str → Option Addr} {W : Wd} {x : TV} {xs : List TV} {vs : List Value} {m : List Value → Prop} (r : RpL ad W (x :: xs) vs) (h : ∀ v us, Rp ad W x v → RpL ad W xs us → m (v :: us)) : m vs :=
  r.elim fun v r => r.elim fun us z => z.1 ▸ h v us z.2.1 z.2.2
theorem noneE {α : Type} {a : α} {P : Prop} (h : none = some a) : P := nomatch h
@[elab_as_elim] theorem someE {α : Type} {a b : α} {m : α → Prop} (h : some a = some b) (k : m a) : m b := Option.some.inj h ▸ k
theorem ite2 {α : Sort _} {c : Prop} [Decidable c] {f : α → Prop} {a b : α} (h1 : c → f a) (h2 : ¬ c → f b) : f (if c then a else b) := by
  by_cases h : c
  · rw [if_pos h]; exact h1 h
  · rw [if_neg h]; exact h2 h

/-- the same frame in another world -/
theorem EnvR.step {ad : Str → Option Addr} {W W' : Wd} {Av Av' F : Addr → Prop} {env : Env} {sc : Scope} {loc : Str → Option TV} {h h' : Heap} (R : EnvR ad W Av F env sc loc h) (le : W.Le W') (hf : ∀ a, F a → Av' a) (hA : ∀ x a, sc.names.lookup x = some .free → env.cells.lookup x = some a → Av a → Av' a)
    (hns : ∀ m, h.Ns env.locals m → h'.Ns env.locals m) (hc : ∀ b cv, Av b → b ≠ env.locals → h.IsCell b cv → h'.IsCell b cv) : EnvR ad W' Av' F env sc loc h' :=
  ⟨R.kind, R.kinds, R.glob, R.bltn, hf, R.locF, R.ns.imp fun m h => ⟨hns m h.1, fun x tv a b => (h.2 x tv a b).imp fun _ => And.imp_right (Rp.mono le)⟩,
    fun x hx => (R.cellF x hx).imp fun a => Exists.imp fun cv => And.imp_right fun z => ⟨hc a cv (R.fsub a z.2.1) z.2.2.1 z.1, z.2.1, z.2.2.1, fun tv e => (z.2.2.2 tv e).imp fun _ => And.imp_right (Rp.mono le)⟩,
    fun x hx => (R.freeF x hx).imp fun a => Exists.imp fun cv z => ⟨z.1, hc a cv z.2.2.1 (fun e => z.2.2.2.1 (e ▸ R.locF)) z.2.1, hA x a hx z.1 z.2.2.1, z.2.2.2.1, fun tv e => (z.2.2.2.2 tv e).imp fun _ => And.imp_right (Rp.mono le)⟩, R.apart⟩
theorem EnvR.kp {ad : Str → Option Addr} {Av F : Addr → Prop} {env : Env} {sc : Scope} {loc : Str → Option TV} {g g' : Gh} {cells cells' : List Cell} {s s' : Shared}
    (R : EnvR ad (g.wd Av cells s.heap) Av F env sc loc s.heap) (k : Kp Av NoF g cells s g' cells' s') : EnvR ad (g'.wd Av cells' s'.heap) Av F env sc loc s'.heap :=
  R.step k.le R.fsub (fun _ _ _ _ => id) (fun _ h => ns_same h fun o ho => k.av _ o (R.fsub _ R.locF) id ho) fun a _ ha _ h => h.elim fun o z => (k.av a o ha id z.1).imp fun _ y => ⟨y.1, y.2.data.trans z.2⟩

structure AOk (S0 : Reg) (n : Nat) (hn : Bool) (A : Around) : Prop where
  depth : A.depth + n < 700
  units : A.units + 8 * n < 9000
  hand : hn = true → A.handled = none
  frames : A.frames = some S0.fr

structure DictAttr (fr : Frag) (C : Addr) (a : Str) : Prop where
  plain : plainGet fr C a = true
  has : hasDictIn fr C = true
  find : ∃ attr, findIn fr (.ref C) a = some attr ∧ noGet fr attr = true
  set : findIn fr (.ref C) "__setattr__" = some (some (.builtin "object.__setattr__"))
  over : plainOver fr C = true
  taker : takerIn fr C a = some none
structure SlotAttr (fr : Frag) (C : Addr) (a : Str) (i : Nat) : Prop where
  plain : plainGet fr C a = true
  cls : isClsIn fr C = true
  slot : ∃ p, findIn fr (.ref C) a = some (some (.ref p)) ∧ specialIn fr (.ref p) "__get__" = some (some (.builtin "member_descriptor.__get__")) ∧ takesIn fr (.ref p) = some true ∧ slotIn fr p C = some i ∧
    takerIn fr C a = some (some (.ref p)) ∧ typeIn fr (.ref p) = some (.type "member_descriptor")
  set : findIn fr (.ref C) "__setattr__" = some (some (.builtin "object.__setattr__"))
  over : plainOver fr C = true
  small : i < 100
structure MethAt (fr : Frag) (C : Addr) (m : Str) (f : Addr) : Prop where
  plain : plainGet fr C m = true
  find : findIn fr (.ref C) m = some (some (.ref f))
  fn : typeIn fr (.ref f) = some (.type "function")
  isfn : fnIn fr f = true
  has : hasDictIn fr C = true
  get : specialIn fr (.ref f) "__get__" = some (some (.builtin "function.__get__"))
  taken : takesIn fr (.ref f) = some false
  copied : copiedNames.contains m = false

/-- a def's defaults -/
noncomputable abbrev DefR (ad : Str → Option Addr) : List Const → List Value → Prop := F2 fun c v => ∃ tv, constTV c = some tv ∧ ∀ W, Rp ad W tv v

noncomputable def FnI.names (f : FnI) : List Str := f.params ++ f.vararg.toList ++ f.kwarg.toList

/-- a def of the text's: its object -/
structure FnAt (ad : Str → Option Addr) (B : Heap) (a : Addr) (f : FnI) (o : Obj) (fd : FuncData) (ds : List Value) : Prop where
  at_ : B.get? a = some o
  dat : o.data = .func fd
  code : B.CodeRec fd.code fd.qualname
  body : fd.body = .stmts f.body
  sc : fd.scope = f.scope
  clo : fd.closure = []
  gl : fd.globals = mainGlobals
  bl : fd.builtins = builtinsNs
  po : fd.params.posonlyargs = []
  ko : fd.params.kwonlyargs = []
  ps : fd.params.args.map (·.arg) = f.params
  va : fd.params.vararg.map (·.arg) = f.vararg
  kw : fd.params.kwarg.map (·.arg) = f.kwarg
  dfl : (fd.defaults = .none ∧ ds = []) ∨ ∃ T o n, fd.defaults = .ref T ∧ B.get? T = some o ∧ o.data = .seq ds.toArray n
  dr : DefR ad f.defaults ds
/-- a def of the text's -/
structure FnOk (ad : Str → Option Addr) (B : Heap) (a : Addr) (f : FnI) : Prop where
  ex : ∃ o fd ds, FnAt ad B a f o fd ds
  co : f.scope.isCoroutine = false
  gen : f.scope.isGenerator = false
  kind : f.scope.kind = .function
  nodup : f.names.Nodup
  names : ∀ x ∈ f.names, f.scope.names.lookup x = some .local ∨ f.scope.names.lookup x = some .cell
  nofree : ∀ p ∈ f.scope.names, p.2 ≠ .free
  dlen : f.defaults.length ≤ f.params.length

/-- a class of the text's, and its __init__ -/
structure ClsOk (K : GK) (C : Addr) (init : Str) : Prop where
  makes : makesIn K.fr C = true
  init : ∃ f, K.ad init = some f ∧ findIn K.fr (.ref C) "__init__" = some (some (.ref f)) ∧ typeIn K.fr (.ref f) = some (.type "function")

structure Base (G : TG) (K : GK) : Prop where
  cls : ∀ x C init, K.ad x = some C → G.kind x = some (.cls (some init)) → ClsOk K C init
  slotted : ∀ x C init names, K.ad x = some C → G.kind x = some (.slotted init names) → ClsOk K C init
  exc : ∀ C, K.ad "CycleError" = some C → G.kind "CycleError" = some .exc → ∃ newId initId bm mg, ExcBaseFacts "ValueError" newId initId bm ∧ OwnClsQ "CycleError" C bm newId mg K.B
  fn : ∀ x a f, K.ad x = some a → G.kind x = some (.fn f) → FnOk K.ad K.B a f
  inB : K.fr.In K.B
  attr : ∀ c C a, K.ad c = some C → G.attrOk c a = true → DictAttr K.fr C a
  slot : ∀ c C a i, K.ad c = some C → G.slotOf c a = some i → SlotAttr K.fr C a i
  meth : ∀ c C m fn, K.ad c = some C → G.meth c m = some fn → ∃ f, K.ad fn = some f ∧ MethAt K.fr C m f
  nolim : K.B.NoLimit
  noseer : K.B.NoSeer
  mods : ∃ o, K.B.get? sysModules = some o
  chars : ∀ a, K.ad "_special_chars_map" = some a → (a == sysModules) = false ∧ ∃ f : Int → Option Value, K.B.MapOf (intKind K.prog K.w) a f ∧ f 97 = none ∧ f 98 = none ∧ f 47 = none ∧ ∃ u, f 46 = some (.str "\\." u)
  names : ∀ x tv, G.glob x = some tv → ∃ mg mb v, K.B.Ns mainGlobals mg ∧ K.B.Ns builtinsNs mb ∧ (mg x = some v ∨ (mg x = none ∧ mb x = some v)) ∧ ∀ W, Rp K.ad W tv v
  keep : ∀ x a k, K.ad x = some a → G.kind x = some k → keepIn K.fr (.ref a) = true

section
variable (K : GK) (S0 : Reg) (Av F : Addr → Prop) (env : Env) (sc : Scope)

structure Now (g : Gh) (es : ES) (s : Shared) : Prop where
  inv : Inv K S0 Av g es.cells s
  env : EnvR K.ad (g.wd Av es.cells s.heap) Av F env sc es.loc s.heap

/-- what a step that may only make and change things hands on -/
noncomputable def PrimP (g : Gh) (cells : List Cell) (s : Shared) (cells' : List Cell) (tv : TV) (P : Value → Shared → Prop) : Prop :=
  ∀ v g' s', Inv K S0 Av g' cells' s' → Kp Av NoF g cells s g' cells' s' → Rp K.ad (g'.wd Av cells' s'.heap) tv v → P v s'

noncomputable def PostE (g : Gh) (es : ES) (s : Shared) (Q : TV → ES → Prop) (P : Value → Shared → Prop) : Prop :=
  ∀ v s' tv es' g', Q tv es' → Now K S0 Av F env sc g' es' s' → Kp Av F g es.cells s g' es'.cells s' → Rp K.ad (g'.wd Av es'.cells s'.heap) tv v → P v s'
noncomputable def PostL (g : Gh) (es : ES) (s : Shared) (Q : List TV → ES → Prop) (P : List Value → Shared → Prop) : Prop :=
  ∀ vs s' tvs es' g', Q tvs es' → Now K S0 Av F env sc g' es' s' → Kp Av F g es.cells s g' es'.cells s' → RpL K.ad (g'.wd Av es'.cells s'.heap) tvs vs → P vs s'
noncomputable def PostT (g : Gh) (es : ES) (s : Shared) (Q : Bool → ES → Prop) (P : Bool → Shared → Prop) : Prop :=
  ∀ b s' es' g', Q b es' → Now K S0 Av F env sc g' es' s' → Kp Av F g es.cells s g' es'.cells s' → P b s'
/-- a store's end -/
noncomputable def PostU (g : Gh) (es : ES) (s : Shared) (Q : ES → Prop) (P : Shared → Prop) : Prop :=
  ∀ s' es' g', Q es' → Now K S0 Av F env sc g' es' s' → Kp Av F g es.cells s g' es'.cells s' → P s'
noncomputable def FlR (ad : Str → Option Addr) (W : Wd) (tf : TF) (fl : Flow) : Prop := @TF.rec (fun _ => Prop) (fl = .next) (fl = .brk) (fl = .cont) (fun v => ∃ u, fl = .ret u ∧ Rp ad W v u) False tf
noncomputable def PostS (g : Gh) (es : ES) (s : Shared) (Q : TF → ES → Prop) (P : Flow → Shared → Prop) : Prop :=
  ∀ fl s' tf es' g', Q tf es' → Now K S0 Av F env sc g' es' s' → Kp Av F g es.cells s g' es'.cells s' → FlR K.ad (g'.wd Av es'.cells s'.heap) tf fl → P fl s'
/-- ... an exception of the text's own, just made -/
noncomputable def PostX (g : Gh) (es : ES) (s : Shared) (Q : TF → ES → Prop) (E : Value → Shared → Prop) : Prop :=
  ∀ h' e s' es' g' C vs, Q .exc es' → Now K S0 Av F env sc g' es' s' → Kp Av F g es.cells s g' es'.cells s' → K.ad "CycleError" = some C → Heap.MadeExcOf s'.heap h' e (.ref C) vs → E (.ref e) { s' with heap := h' }
noncomputable def PostC (g : Gh) (cells : List Cell) (s : Shared) (Q : TV → List Cell → Prop) (P : Value → Shared → Prop) : Prop :=
  ∀ v s' tv cells' g', Q tv cells' → Inv K S0 Av g' cells' s' → Kp Av NoF g cells s g' cells' s' → Rp K.ad (g'.wd Av cells' s'.heap) tv v → P v s'
end

noncomputable def SndE (K : GK) (S0 : Reg) (n : Nat) (r : Cx → Expr → ES → (TV → ES → Prop) → Prop) : Prop :=
  ∀ cx e es Q, r cx e es Q → ∀ A env Av F g s E P, AOk S0 n cx.hn A → Now K S0 Av F env cx.sc g es s → PostE K S0 Av F env cx.sc g es s Q P → wpAny (model K.prog K.w) A (eval e env) P E s
noncomputable def SndT (K : GK) (S0 : Reg) (n : Nat) (r : Cx → Expr → ES → (Bool → ES → Prop) → Prop) : Prop :=
  ∀ cx e es Q, r cx e es Q → ∀ A env Av F g s E P, AOk S0 n cx.hn A → Now K S0 Av F env cx.sc g es s → PostT K S0 Av F env cx.sc g es s Q P → wpAny (model K.prog K.w) A (isTrue e env (eval e env)) P E s
noncomputable def SndS (K : GK) (S0 : Reg) (n : Nat) (r : Cx → List Stmt → ES → (TF → ES → Prop) → Prop) : Prop :=
  ∀ cx b es Q, r cx b es Q → ∀ A env Av F g s E P, AOk S0 n cx.hn A → S0.fr.head? = some env → Now K S0 Av F env cx.sc g es s → PostS K S0 Av F env cx.sc g es s Q P → PostX K S0 Av F env cx.sc g es s Q E → wpAny (model K.prog K.w) A (execs b env) P E s
noncomputable def SndC (K : GK) (S0 : Reg) (n : Nat) (r : Bool → TV → List TV → List Cell → (TV → List Cell → Prop) → Prop) : Prop :=
  ∀ hn f args cells Q, r hn f args cells Q → ∀ A Av g s E P fv vs, AOk S0 n hn A → Inv K S0 Av g cells s → Rp K.ad (g.wd Av cells s.heap) f fv → RpL K.ad (g.wd Av cells s.heap) args vs →
    PostC K S0 Av g cells s Q P → codeAny (model K.prog K.w) A (.call fv ⟨vs, []⟩) (wants P E) s
structure Snd (K : GK) (S0 : Reg) (n : Nat) (r : Rec) : Prop where
  e : SndE K S0 n r.e
  t : SndT K S0 n r.t
  s : SndS K S0 n r.s
  c : SndC K S0 n r.c

section
variable {K : GK} {S0 : Reg} {Av F : Addr → Prop} {env : Env} {sc : Scope} {g g₁ : Gh} {es es₁ : ES} {s s₁ : Shared}
theorem PostE.on {Q : TV → ES → Prop} {P : Value → Shared → Prop} (h : PostE K S0 Av F env sc g es s Q P) (k : Kp Av F g es.cells s g₁ es₁.cells s₁) : PostE K S0 Av F env sc g₁ es₁ s₁ Q P :=
  fun v s' tv es' g' q n k' r => h v s' tv es' g' q n (k.trans k') r
theorem PostT.on {Q : Bool → ES → Prop} {P : Bool → Shared → Prop} (h : PostT K S0 Av F env sc g es s Q P) (k : Kp Av F g es.cells s g₁ es₁.cells s₁) : PostT K S0 Av F env sc g₁ es₁ s₁ Q P :=
  fun v s' es' g' q n k' => h v s' es' g' q n (k.trans k')
theorem PostU.on {Q : ES → Prop} {P : Shared → Prop} (h : PostU K S0 Av F env sc g es s Q P) (k : Kp Av F g es.cells s g₁ es₁.cells s₁) : PostU K S0 Av F env sc g₁ es₁ s₁ Q P :=
  fun s' es' g' q n k' => h s' es' g' q n (k.trans k')
theorem PostS.on {Q : TF → ES → Prop} {P : Flow → Shared → Prop} (h : PostS K S0 Av F env sc g es s Q P) (k : Kp Av F g es.cells s g₁ es₁.cells s₁) : PostS K S0 Av F env sc g₁ es₁ s₁ Q P :=
  fun v s' tv es' g' q n k' r => h v s' tv es' g' q n (k.trans k') r
theorem PostX.on {Q : TF → ES → Prop} {E : Value → Shared → Prop} (h : PostX K S0 Av F env sc g es s Q E) (k : Kp Av F g es.cells s g₁ es₁.cells s₁) : PostX K S0 Av F env sc g₁ es₁ s₁ Q E :=
  fun h' e s' es' g' C vs q n k' hC m => h h' e s' es' g' C vs q n (k.trans k') hC m
theorem PostL.on {Q : List TV → ES → Prop} {P : List Value → Shared → Prop} (h : PostL K S0 Av F env sc g es s Q P) (k : Kp Av F g es.cells s g₁ es₁.cells s₁) : PostL K S0 Av F env sc g₁ es₁ s₁ Q P :=
  fun v s' tv es' g' q n k' r => h v s' tv es' g' q n (k.trans k') r

/-- a primitive step's end from an expression's -/
theorem Now.prim (n : Now K S0 Av F env sc g es s) {cells' : List Cell} {tv : TV} {Q : TV → ES → Prop} {P : Value → Shared → Prop} (h : PostE K S0 Av F env sc g es s Q P) (q : Q tv { es with cells := cells' }) :
    PrimP K S0 Av g es.cells s cells' tv P := fun v g' s' i k r => h v s' tv { es with cells := cells' } g' q ⟨i, n.env.kp k⟩ (k.weak fun _ h => h.elim) r
theorem Now.prim' (n : Now K S0 Av F env sc g es s) {tv : TV} {Q : TV → ES → Prop} {P : Value → Shared → Prop} (h : PostE K S0 Av F env sc g es s Q P) (q : Q tv es) :
    PrimP K S0 Av g es.cells s es.cells tv P := n.prim h q

theorem PrimP.here {cells : List Cell} {tv : TV} {v : Value} {P : Value → Shared → Prop} (h : PrimP K S0 Av g cells s cells tv P) (I : Inv K S0 Av g cells s) (r : Rp K.ad (g.wd Av cells s.heap) tv v) : P v s := h v g s I .refl r
theorem PrimP.tok {cells : List Cell} {tv : TV} {v : Value} {P : Value → Shared → Prop} (h : PrimP K S0 Av g cells s cells tv P) (I : Inv K S0 Av g cells s) {tk : Nat} (ht : s.toks ≤ tk) (r : Rp K.ad (g.wd Av cells s.heap) tv v) : P v { s with toks := tk } := by
  exact h v g _ (I.grow (h' := s.heap) (fun _ _ => id) ht).1 (I.grow (h' := s.heap) (fun _ _ => id) ht).2 r
theorem PrimP.str {cells : List Cell} {x : Str} {P : Value → Shared → Prop} (h : PrimP K S0 Av g cells s cells (.str x) P) (I : Inv K S0 Av g cells s) (hx : PyData.strOk x = true) : P (.str x s.toks) { s with toks := s.toks + 1 } := by
  obtain ⟨i, k⟩ := I.str (h' := s.heap) (Nat.le_refl _) (Nat.lt_succ_self s.toks) hx (fun _ _ e => e)
  exact h _ _ _ i k (strT ..)
/-- a new thing that stands for good -/
theorem PrimP.new {cells : List Cell} {tv : TV} {P : Value → Shared → Prop} (h : PrimP K S0 Av g cells s cells tv P) (I : Inv K S0 Av g cells s) {o : Obj} {tk : Nat} (ht : s.toks ≤ tk) (hf : o.isFreed = false)
    (r : ∀ W : Wd, (g.wd Av cells s.heap).Le W → W.V s.heap.objs.size o → Rp K.ad W tv (.ref s.heap.objs.size)) : P (.ref s.heap.objs.size) { s with heap := s.heap.push o, toks := tk } := by
  obtain ⟨i, k⟩ := I.grow (h' := s.heap.push o) (fun a o' e => Heap.get?_push_of_some _ e) ht
  exact h _ g _ i k (r _ k.le (I.newV (get_size _) (Heap.get?_push_size _ hf)))

theorem cellL_inv {o : Option Cell} {xs : List TV} (h : cellL o = some xs) : o = some (.list xs) := by
  cases o with
  | none => exact noneE h
  | some c => cases c with
    | list => exact congrArg (fun z => some (Cell.list z)) (Option.some.inj h)
    | _ => exact noneE h
theorem cellD_inv {o : Option Cell} {xs : List (Str × TV)} (h : cellD o = some xs) : ∃ fx, o = some (.dict xs fx) := by
  cases o with
  | none => exact noneE h
  | some c => cases c with
    | dict _ fx => exact ⟨fx, congrArg (fun z => some (Cell.dict z fx)) (Option.some.inj h)⟩
    | _ => exact noneE h
theorem cellN_inv {o : Option Cell} {xs : List (Str × TV)} (h : cellN o = some xs) : o = some (.ns xs) := by
  cases o with
  | none => exact noneE h
  | some c => cases c with
    | ns => exact congrArg (fun z => some (Cell.ns z)) (Option.some.inj h)
    | _ => exact noneE h
theorem cellDo_inv {o : Option Cell} {xs : List (Str × TV)} (h : cellDo o = some xs) : o = some (.dict xs false) := by
  cases o with
  | none => exact noneE h
  | some c => cases c with
    | dict _ fx => cases fx with
      | false => exact congrArg (fun z => some (Cell.dict z false)) (Option.some.inj h)
      | true => exact noneE h
    | _ => exact noneE h
theorem refOf_inv {x : TV} {n : Nat} (h : refOf x = some n) : x = .ref n := by
  cases x with
  | ref => exact congrArg TV.ref (Option.some.inj h)
  | _ => exact noneE h
theorem intOf_inv {x : TV} {n : Int} (h : intOf x = some n) : x = .int n := by
  cases x with
  | int => exact congrArg TV.int (Option.some.inj h)
  | _ => exact noneE h
theorem listOf_case {cells : List Cell} {x : TV} {xs : List TV} (h : listOfTV cells x = some xs) : x = .list xs ∨ ∃ n, x = .ref n ∧ cells[n]? = some (.list xs) := by
  cases x with
  | list => exact .inl (congrArg TV.list (Option.some.inj h))
  | ref n => exact .inr ⟨n, rfl, cellL_inv h⟩
  | _ => exact noneE h
theorem listOf_inv {cells : List Cell} {x : TV} {v : Value} {xs : List TV} (I : Inv K S0 Av g cells s) (r : Rp K.ad (g.wd Av cells s.heap) x v) (h : listOfTV cells x = some xs) :
    ∃ a vs n, v = .ref a ∧ s.heap.get? a = some (listObj vs n) ∧ RpL K.ad (g.wd Av cells s.heap) xs vs :=
  (listOf_case h).elim (fun e => (show Rp _ _ (.list xs) v from e ▸ r).listI.imp fun _ => Exists.imp fun _ => Exists.imp fun _ => And.imp_right (And.imp_left (·.1)))
    fun ⟨n, e, hc⟩ => (show Rp _ _ (.ref n) v from e ▸ r).elim fun a z => ⟨a, (I.cell n _ a hc z.2).imp fun _ => Exists.imp fun _ => And.intro z.1⟩
theorem seqOf_case {cells : List Cell} {x : TV} {xs : List TV} (h : seqOfTV cells x = some xs) : x = .tup xs ∨ listOfTV cells x = some xs := by
  cases x with
  | tup => exact .inl (congrArg TV.tup (Option.some.inj h))
  | _ => exact .inr h
theorem seqOf_inv {cells : List Cell} {x : TV} {v : Value} {xs : List TV} (I : Inv K S0 Av g cells s) (r : Rp K.ad (g.wd Av cells s.heap) x v) (h : seqOfTV cells x = some xs) :
    (∃ a vs n, v = .ref a ∧ s.heap.get? a = some (listObj vs n) ∧ RpL K.ad (g.wd Av cells s.heap) xs vs) ∨ ∃ a vs n, v = .ref a ∧ s.heap.get? a = some (tupObj vs n) ∧ RpL K.ad (g.wd Av cells s.heap) xs vs :=
  (seqOf_case h).elim (fun e => .inr ((show Rp _ _ (.tup xs) v from e ▸ r).tupI.imp fun _ => Exists.imp fun _ => Exists.imp fun _ => And.imp_right (And.imp_left (·.1)))) fun h => .inl (listOf_inv I r h)

theorem strOk_append {x y : Str} (hx : PyData.strOk x = true) (hy : PyData.strOk y = true) : PyData.strOk (x ++ y) = true := by
  have e : (x ++ y).cps = x.cps ++ y.cps := rfl
  unfold PyData.strOk at *
  rw [e, Array.all_append, hx, hy]; rfl

theorem Inv.strOk {cells : List Cell} {x : Str} {t : Tok} (I : Inv K S0 Av g cells s) (h : (g.wd Av cells s.heap).T t = some x) : PyData.strOk x = true := (I.tt t x h).2.2
theorem lim_le {n : Nat} (h : n ≤ lim) : n ≤ sizeLine := Nat.le_trans h (by decide)

theorem RpL.rep {ad : Str → Option Addr} {W : Wd} {xs : List TV} {vs : List Value} (n : Nat) (h : RpL ad W xs vs) : RpL ad W (List.replicate n xs).flatten (List.replicate n vs).flatten := by
  induction n with
  | zero => exact .nil
  | succ n ih => rw [List.replicate_succ, List.replicate_succ, List.flatten_cons, List.flatten_cons]; exact h.append ih

theorem fold_append {α : Type} (l : List (Array α)) : ∀ a : Array α, l.foldl (fun x y => x ++ y) a = a ++ (l.map (·.toList)).flatten.toArray := by
  induction l with
  | nil => intro a; simp
  | cons b l ih => intro a; rw [List.foldl_cons, ih]; apply Array.ext'; simp

theorem mul_any {prog : Program} {w : World} {A : Around} {E : Value → Shared → Prop} {s : Shared} {l : Addr} {vs : List Value} {n : Nat} {k : Int} {u : Tok} {Q : Value → Shared → Prop}
    (hl : s.heap.get? l = some (listObj vs n)) (h0 : 0 ≤ k) (h1 : k ≤ lim) (hsz : vs.length * k.toNat ≤ sizeLine) (h : Q (.ref s.heap.objs.size) { s with heap := s.heap.push (listObj (List.replicate k.toNat vs).flatten 0) }) :
    wpAny (model prog w) A (binaryOp .Mult (.ref l) (.int k u)) Q E s := by
  have hlim : (lim : Int) = 4096 := rfl
  have hsl : sizeLine = 16777216 := by decide
  have e : (List.foldl (fun x1 x2 => x1 ++ x2) #[] (List.replicate (if vs.toArray.isEmpty = true then 0 else k.toNat) vs.toArray)) = (List.replicate k.toNat vs).flatten.toArray := by
    rw [fold_append]
    cases vs with
    | nil => simp
    | cons v vs => simp
  refine wpAny_binaryOp_repeat_ref (T := "list") (U := "int") (by decide) ⟨_, hl, rfl⟩ (fun s' => typeIs_int s' k u) noFill_list_mul F.fills_int_mul F.slot_int_rmul repeat_list F.slot_int_index.lookup
    (call_meets F.slot_int_rmul (typeIs_int s k u) F.entry_int_rmul (F.args_int_rmul_2 _ _) (int___rmul___int_list k u l vs.toArray n)
      ⟨hl, rfl, ⟨_, hl, rfl⟩, call_meets F.slot_list_mul ⟨_, hl, rfl⟩ F.entry_list_mul (F.args_list_mul_2 _ _)
        (AutoListH.list___mul___list_int_3 l vs.toArray n k u (by simp [Builtin.List.listFitsIndex]; omega) (by simp only [List.size_toArray]; omega) (by simp [Builtin.List.listTooLong]; omega))
        ⟨hl, ?_⟩⟩)
  rw [e]; exact h

theorem length_append (x y : Str) : (x ++ y).length = x.length + y.length := by show (x.cps ++ y.cps).size = _; rw [Array.size_append]; rfl
theorem add_ne {prog : Program} {w : World} {A : Around} {E : Value → Shared → Prop} {s : Shared} {x y : Str} {t u : Tok} {Q : Value → Shared → Prop} (hx : x.length ≠ 0) (hy : y.length ≠ 0) (hl : x.length + y.length ≤ sizeLine)
    (h : Q (.str (x ++ y) s.toks) { s with toks := s.toks + 1 }) : wpAny (model prog w) A (binaryOp .Add (.str x t) (.str y u)) Q E s := by
  refine PySem.P.add_str ?_
  rw [if_neg (by simpa using hx), if_neg (by simpa using hy)]
  exact ⟨by rw [length_append]; exact hl, h⟩
theorem str_empty_l {x y : Str} (h : x.length = 0) : x ++ y = y := by
  have e : x.cps = #[] := Array.eq_empty_of_size_eq_zero h
  show (⟨x.cps ++ y.cps⟩ : Str) = y
  rw [e]; simp
theorem str_empty_r {x y : Str} (h : y.length = 0) : x ++ y = x := by
  have e : y.cps = #[] := Array.eq_empty_of_size_eq_zero h
  show (⟨x.cps ++ y.cps⟩ : Str) = x
  rw [e]; simp
theorem bin_ok {cells : List Cell} {op : Operator} {a b x : TV} {va vb : Value} {A : Around} {E P : Value → Shared → Prop} (I : Inv K S0 Av g cells s) (ra : Rp K.ad (g.wd Av cells s.heap) a va) (rb : Rp K.ad (g.wd Av cells s.heap) b vb)
    (h : Bin cells op a b x) (p : PrimP K S0 Av g cells s cells x P) : wpAny (model K.prog K.w) A (binaryOp op va vb) P E s := by
  revert ra rb p
  induction h with
  | add =>
    intro ra rb p
    exact ra.intE fun t => rb.intE fun u => PySem.P.add_int (p.tok I (Nat.le_succ _) (.int _ _))
  | sub =>
    intro ra rb p
    exact ra.intE fun t => rb.intE fun u => PySem.P.sub_int (p.tok I (Nat.le_succ _) (.int _ _))
  | fdiv h1 h2 =>
    intro ra rb p
    exact ra.intE fun t => rb.intE fun u => floordiv_int (Int.ne_of_gt h1) (p.tok I (Nat.le_succ _) (.int _ _)) (.inl (PyProof.noPylong_small (by omega)))
  | fmod h1 h2 =>
    intro ra rb p
    exact ra.intE fun t => rb.intE fun u => mod_int' (Int.ne_of_gt h1) (p.tok I (Nat.le_succ _) (.int _ _))
  | @adds x y hl =>
    intro ra rb p
    exact ra.strE fun t ex => rb.strE fun u ey => PySem.P.add_str (ite2 (f := fun m : Made => m.post P s) (fun h0 => (str_empty_l (y := y) (eq_of_beq h0) ▸ p).here I (.str ey)) fun _ => ite2 (f := fun m : Made => m.post P s) (fun h0 => (str_empty_r (x := x) (eq_of_beq h0) ▸ p).here I (.str ex)) fun _ =>
      ⟨length_append x y ▸ lim_le hl, p.str I (strOk_append (I.strOk ex) (I.strOk ey))⟩)
  | adds1 h1 h2 h3 =>
    intro ra rb p
    exact ra.suE fun t hx => rb.strE fun u ey => add_ne h2 h3 (lim_le h1) (p.str I (strOk_append hx (I.strOk ey)))
  | adds2 h1 h2 h3 =>
    intro ra rb p
    exact ra.strE fun t ex => rb.suE fun u hy => add_ne h2 h3 (lim_le h1) (p.str I (strOk_append (I.strOk ex) hy))
  | mul hx h0 h1 h2 =>
    intro ra rb p
    exact (listOf_inv I ra hx).elim fun la r => r.elim fun vs r => r.elim fun n z => rb.intE fun u => z.1 ▸ mul_any z.2.1 h0 h1 (z.2.2.length ▸ lim_le h2) (p.new I (o := listObj (List.replicate (Int.toNat _) vs).flatten 0) (Nat.le_refl s.toks) rfl fun W l hV => .list hV (RpL.rep _ (RpL.mono l z.2.2)))
  | addl hx hy hl =>
    intro ra rb p
    exact (listOf_inv I ra hx).elim fun la r => r.elim fun vs r => r.elim fun n z => (listOf_inv I rb hy).elim fun lb r => r.elim fun us r => r.elim fun n' y => by
      rw [z.1, y.1]
      exact PySem.P.add_list z.2.1 y.2.1 (by rw [List.append_toArray]; exact p.new I (o := listObj (vs ++ us) 0) (Nat.le_refl s.toks) rfl fun W l hV => .list hV ((RpL.mono l z.2.2).append (RpL.mono l y.2.2))) (by show vs.length + us.length ≤ _; rw [z.2.2.length, y.2.2.length]; exact lim_le hl)
end
end

section
open PySem PySem.W PyProof.Rows

section
variable {G : TG} {K : GK} {S0 : Reg} {Av F : Addr → Prop} {env : Env} {sc : Scope} {g g₁ : Gh} {es es₁ : ES} {s s₁ : Shared} {cells : List Cell}

theorem bindE {α β : Type} {o : Option α} {f : α → Option β} {b : β} {P : Prop} (h : o.bind f = some b) (k : ∀ a, o = some a → f a = some b → P) : P := (Option.bind_eq_some_iff.mp h).elim fun a z => k a z.1 z.2
theorem mapE {α β : Type} {o : Option α} {f : α → β} {b : β} {P : Prop} (h : o.map f = some b) (k : ∀ a, o = some a → f a = b → P) : P := (Option.map_eq_some_iff.mp h).elim fun a z => k a z.1 z.2
theorem ifE {α : Type} {c : Prop} [Decidable c] {a b : α} {P : Prop} (h : (if c then some a else none) = some b) (k : c → a = b → P) : P := by
  by_cases hc : c
  · rw [if_pos hc] at h; exact k hc (Option.some.inj h)
  · rw [if_neg hc] at h; exact noneE h

/-- a value that is read as data -/
noncomputable def RdV (ad : Str → Option Addr) (W : Wd) (h : Heap) (cells : List Cell) (x : TV) : Prop := ∀ (v : Value) (d : PyData), Rp ad W x v → toPy cells x = some d → ∃ as, Reads h v d as ∧ d.canLay0 = true
theorem rdL {ad : Str → Option Addr} {W : Wd} {h : Heap} {cells : List Cell} {xs : List TV} {vs : List Value} {ds : List PyData} (hx : ∀ x ∈ xs, RdV ad W h cells x) (r : RpL ad W xs vs) (e : toPys cells xs = some ds) : ∃ as, ReadsAll h vs ds as ∧ PyData.canLayAll0 ds = true := by
  induction xs generalizing vs ds with
  | nil => exact someE e (r.nilE ⟨_, .nil, rfl⟩)
  | cons x xs ih =>
    refine r.consE fun v us r1 r2 => bindE (show (toPy cells x).bind _ = _ from e) fun d e1 e => mapE e fun ds' e2 q => q ▸ (hx x (.head _) v d r1 e1).elim fun as y1 => (ih (fun x hx' => hx x (.tail _ hx')) r2 e2).elim fun bs y2 => ⟨_, .cons y1.1 y2.1, ?_⟩
    show (_ && _) = true
    rw [y1.2]; exact y2.2
theorem rp_reads {ad : Str → Option Addr} {W : Wd} {h : Heap} (hV : ∀ a o, W.V a o → h.get? a = some o) (hT : ∀ t x, W.T t = some x → PyData.strOk x = true) (cells : List Cell) (x : TV) : RdV ad W h cells x := by
  refine @TV.rec (RdV ad W h cells) (fun xs => ∀ x ∈ xs, RdV ad W h cells x) (fun v d r e => ?_) (fun b v d r e => ?_) (fun i v d r e => ?_) (fun s v d r e => ?_) (fun xs ih v d r e => ?_) (fun xs ih v d r e => ?_) (fun _ _ _ _ _ _ => noneE) (fun _ _ _ _ => noneE) (fun _ _ _ _ => noneE) (fun _ _ _ _ => noneE) (fun _ _ _ _ _ => noneE)
    (fun _ _ _ _ => noneE) (fun _ _ _ _ => noneE) (fun _ z => nomatch z) (fun x xs a b y hy => (List.mem_cons.mp hy).elim (fun (e : y = x) => e ▸ a) (b y)) x
  · exact someE e (r.noneE ⟨_, .none, rfl⟩)
  · exact someE e (r.boolE ⟨_, .bool b, rfl⟩)
  · exact someE e (r.intE fun t => ⟨_, .int i t, rfl⟩)
  · exact someE e (r.strE fun t q => ⟨_, .str _ _, hT _ _ q⟩)
  · exact mapE (show (toPys cells xs).map _ = _ from e) fun ds e q => q ▸ r.listE' fun a vs n z1 z2 => (rdL ih z2 e).elim fun as y => ⟨_, .list (hV _ _ z1) rfl rfl (show ReadsAll h vs.toArray.toList ds as from y.1), y.2⟩
  · exact mapE (show (toPys cells xs).map _ = _ from e) fun ds e q => q ▸ r.tupE' fun a vs n z1 z2 => (rdL ih z2 e).elim fun as y => ⟨_, .tuple (hV _ _ z1) rfl rfl (show ReadsAll h vs.toArray.toList ds as from y.1), y.2⟩

theorem Inv.rdV (I : Inv K S0 Av g cells s) (cells' : List Cell) (x : TV) : RdV K.ad (g.wd Av cells s.heap) s.heap cells' x := rp_reads (W := g.wd Av cells s.heap) (fun _ _ z => z.1) (fun t x z => (I.tt t x z).2.2) cells' x
theorem Inv.readL (I : Inv K S0 Av g cells s) {x : TV} {v : Value} {xs : List TV} {ds : List PyData} (r : Rp K.ad (g.wd Av cells s.heap) x v) (h : listOfTV cells x = some xs) (e : toPys cells xs = some ds) : ∃ as, Reads s.heap v (.list ds) as ∧ PyData.canLayAll0 ds = true :=
  (listOf_inv I r h).elim fun a q => q.elim fun vs q => q.elim fun n z => (rdL (fun x _ => I.rdV cells x) z.2.2 e).elim fun as y => ⟨a :: as, z.1 ▸ .list z.2.1 rfl rfl (show ReadsAll s.heap vs.toArray.toList ds as from y.1), y.2⟩
theorem Inv.reads (I : Inv K S0 Av g cells s) {x : TV} {v : Value} {d : PyData} (r : Rp K.ad (g.wd Av cells s.heap) x v) (h : pyOf cells x = some d) : ∃ as, Reads s.heap v d as ∧ d.canLay0 = true := by
  unfold pyOf at h
  cases hx : listOfTV cells x with
  | none => rw [hx] at h; exact I.rdV cells x v d r h
  | some xs => rw [hx] at h; exact mapE (show (toPys cells xs).map _ = _ from h) fun ds e1 e2 => e2 ▸ I.readL r hx e1

theorem Inv.notMods (hB : Base G K) (I : Inv K S0 Av g cells s) {i : Nat} {a : Addr} (ha : g.am[i]? = some a) : (a == sysModules) = false :=
  hB.mods.elim fun o e => beq_eq_false_iff_ne.mpr fun q => by rw [← q, I.apart _ (List.mem_of_getElem? ha)] at e; cases e

theorem vAt_pos {q : Str × Value} {l : List (Str × Value)} {k : Str} (h : q.1 = k) : valueAt (q :: l) k = some q.2 :=
  congrArg (Option.map (fun kv : Str × Value => kv.2)) (List.find?_cons_of_pos (p := fun kv : Str × Value => decide (kv.1 = k)) (decide_eq_true h))
theorem vAt_neg {q : Str × Value} {l : List (Str × Value)} {k : Str} (h : q.1 ≠ k) : valueAt (q :: l) k = valueAt l k :=
  congrArg (Option.map (fun kv : Str × Value => kv.2)) (List.find?_cons_of_neg (p := fun kv : Str × Value => decide (kv.1 = k)) (fun z => h (of_decide_eq_true z)))
theorem lookD_pos {p : Str × TV} {l : List (Str × TV)} {k : Str} (h : p.1 = k) : lookD (p :: l) k = some p.2 := if_pos h
theorem lookD_neg {p : Str × TV} {l : List (Str × TV)} {k : Str} (h : p.1 ≠ k) : lookD (p :: l) k = lookD l k := if_neg h
theorem lookD_valueAt {ad : Str → Option Addr} {W : Wd} (k : Str) {kvs : List (Str × TV)} {l : List (Str × Value)} (h : KvR ad W kvs l) : (∃ tv v, lookD kvs k = some tv ∧ valueAt l k = some v ∧ Rp ad W tv v) ∨ (lookD kvs k = none ∧ valueAt l k = none) := by
  refine F2.ind (motive := fun kvs l => (∃ tv v, lookD kvs k = some tv ∧ valueAt l k = some v ∧ Rp ad W tv v) ∨ (lookD kvs k = none ∧ valueAt l k = none)) (.inr ⟨rfl, rfl⟩) (fun p q kvs l a _ ih => ?_) h
  by_cases e : p.1 = k
  · exact .inl ⟨p.2, q.2, lookD_pos e, vAt_pos (a.1.1.trans e), a.2⟩
  · rw [lookD_neg e, vAt_neg fun z => e (a.1.1.symm.trans z)]; exact ih
theorem lookD_isSome {ad : Str → Option Addr} {W : Wd} (k : Str) {kvs : List (Str × TV)} {l : List (Str × Value)} (h : KvR ad W kvs l) : (valueAt l k).isSome = (lookD kvs k).isSome :=
  (lookD_valueAt k h).elim (fun z => z.elim fun _ z => z.elim fun _ z => by rw [z.1, z.2.1]; rfl) fun z => by rw [z.1, z.2]; rfl

theorem Inv.dictAt (I : Inv K S0 Av g cells s) {n : Nat} {kvs : List (Str × TV)} {a : Addr} {fx : Bool} (hc : cells[n]? = some (.dict kvs fx)) (ha : g.am[n]? = some a) :
    ∃ l, s.heap.DictOf (strKind K.prog K.w) a l ∧ KvR K.ad (g.wd Av cells s.heap) kvs l := (I.cell n _ a hc ha).imp fun _ h => h.elim fun o z => ⟨Heap.dictOf_iff.mpr ⟨o, z.1, z.2.1⟩, z.2.2⟩
theorem Inv.setAt (I : Inv K S0 Av g cells s) {n : Nat} {xs : List Str} {a : Addr} {fx : Bool} (hc : cells[n]? = some (.set xs fx)) (ha : g.am[n]? = some a) : s.heap.SetOf (strKind K.prog K.w) a (fun k => xs.contains k) xs.length :=
  (I.cell n _ a hc ha).imp fun o z => z.2.1.imp fun es => Exists.imp fun ep => Exists.imp fun t y => ⟨z.1, y⟩

theorem key_inv (I : Inv K S0 Av g cells s) {x : TV} {v : Value} {k : Str} (r : Rp K.ad (g.wd Av cells s.heap) x v) (h : keyTV x = some k) : ∃ t, v = .str k t ∧ PyData.strOk k = true := by
  cases x with
  | str => exact someE h (r.imp fun t => And.imp_right fun e => (I.tt _ _ e).2.2)
  | su => exact someE h r
  | _ => exact noneE h

/-- both ways of asking -/
noncomputable def Both (K : GK) (S0 : Reg) (Av : Addr → Prop) (A : Around) (g : Gh) (cells : List Cell) (s : Shared) (E P : Value → Shared → Prop) (f f' : Sem Value) (c : Bool) : Prop :=
  (PrimP K S0 Av g cells s cells (.bool c) P → wpAny (model K.prog K.w) A f P E s) ∧ (PrimP K S0 Av g cells s cells (.bool (!c)) P → wpAny (model K.prog K.w) A f' P E s)

section
variable {a b : TV} {xs : List TV} {c : Bool} {va vb : Value} {A : Around} {E P : Value → Shared → Prop}
theorem inList_ok (hA : A.units < 9000) (I : Inv K S0 Av g cells s) (ra : Rp K.ad (g.wd Av cells s.heap) a va) (rb : Rp K.ad (g.wd Av cells s.heap) b vb)
    (hl : listOfTV cells b = some xs) (h : inList cells a xs = some c) : Both K S0 Av A g cells s E P (compareOp .In va vb) (compareOp .NotIn va vb) c :=
  bindE h fun ds e1 h => bindE h fun d e2 h => ifE h fun hd e => e ▸ (I.readL rb hl e1).elim fun as y => (I.reads ra e2).elim fun bs z =>
    have hm : A.units + 1 + min (PyData.depthAll ds) d.depth < cLine := Nat.lt_of_lt_of_le (Nat.add_lt_add_of_le_of_lt (Nat.succ_le_of_lt hA) (Nat.lt_succ_of_le (Nat.le_trans (Nat.min_le_left _ _) hd.1))) (by decide)
    ⟨fun p => SeqAt.in_list_reads y.1 z.1 y.2 z.2 hm (p.here I (.bool _)), fun p => SeqAt.notIn_list_reads y.1 z.1 y.2 z.2 hm (p.here I (.bool _))⟩

theorem in_ok (hB : Base G K) (hA : A.units < 9000) (I : Inv K S0 Av g cells s) (ra : Rp K.ad (g.wd Av cells s.heap) a va) (rb : Rp K.ad (g.wd Av cells s.heap) b vb)
    (h : inTV cells a b = some c) : Both K S0 Av A g cells s E P (compareOp .In va vb) (compareOp .NotIn va vb) c := by
  cases b with
  | list => exact inList_ok hA I ra rb rfl h
  | ref n =>
    change inC cells a cells[n]? = some c at h
    cases hc : cells[n]? with
    | none => rw [hc] at h; exact noneE h
    | some d =>
      rw [hc] at h
      cases d with
      | dict kvs fx => exact mapE h fun k hk e => e ▸ (key_inv I ra hk).elim fun t q => q.1 ▸ rb.refE fun a ha => (I.dictAt hc ha).elim fun l z => lookD_isSome k z.2 ▸
          ⟨fun p => wpAny_in_of (strKind_is ..) (I.notMods hB ha) z.1.mapOf (p.tok I (Nat.le_succ _) (.bool _)), fun p => wpAny_notIn_of (strKind_is ..) (I.notMods hB ha) z.1.mapOf (p.tok I (Nat.le_succ _) (.bool _))⟩
      | set xs fx => exact mapE h fun k hk e => e ▸ (key_inv I ra hk).elim fun t q => q.1 ▸ rb.refE fun a ha =>
          ⟨fun p => wpAny_inSet_of (strKind_is ..) rfl (I.setAt hc ha) (p.tok I (Nat.le_succ _) (.bool _)), fun p => wpAny_notInSet_of (strKind_is ..) rfl (I.setAt hc ha) (p.tok I (Nat.le_succ _) (.bool _))⟩
      | list xs => exact inList_ok hA I ra rb (by show cellL _ = _; rw [hc]; rfl) h
      | _ => exact noneE h
  | _ => exact noneE h

theorem is_of (I : Inv K S0 Av g cells s) (e : isSame va vb = pure c) : Both K S0 Av A g cells s E P (compareOp .Is va vb) (compareOp .IsNot va vb) c :=
  ⟨fun p => wpAny_of_eq (show (do return Value.bool (← isSame va vb)) = (pure (Value.bool c) : Sem Value) by rw [e]; rfl) (p.here I (.bool _)), fun p => wpAny_of_eq (show (do return Value.bool (!(← isSame va vb))) = (pure (Value.bool (!c)) : Sem Value) by rw [e]; rfl) (p.here I (.bool _))⟩
theorem isN_of {ad : Str → Option Addr} {W : Wd} (r : Rp ad W a va) (h : isN a = some c) : isSame va .none = pure c := by
  cases a with
  | none => exact someE h (r.noneE rfl)
  | g => exact noneE h
  | bool => exact someE h (r.boolE rfl)
  | int => exact someE h (r.intE fun _ => rfl)
  | str => exact someE h (r.strE fun _ _ => rfl)
  | su => exact someE h (r.suE fun _ _ => rfl)
  | list => exact someE h (r.listE' fun _ _ _ _ _ => rfl)
  | tup => exact someE h (r.tupE' fun _ _ _ _ _ => rfl)
  | rng => exact someE h (r.rngE fun _ _ _ _ _ => rfl)
  | ref => exact someE h (r.refE fun _ _ => rfl)
  | fn => exact someE h (r.fnE fun _ _ => rfl)
  | vals => exact someE h (r.elim fun _ r => r.elim fun _ r => r.elim fun _ z => z.1 ▸ rfl)
  | bm => exact someE h (r.elim fun _ r => r.elim fun _ r => r.elim fun _ z => z.1 ▸ rfl)
theorem typV_inv {v : Value} {T : String} (h : typV v = some T) : v = .type T := by
  cases v with
  | type => exact congrArg Value.type (Option.some.inj h)
  | _ => exact noneE h
theorem strOf_inv {x : TV} {k : Str} (h : strOf x = some k) : x = .str k := by
  cases x with
  | str => exact congrArg TV.str (Option.some.inj h)
  | _ => exact noneE h
theorem same_type (U T : String) : (Value.type U == Value.type T) = decide (U = T) := by rw [Bool.eq_iff_iff, beq_iff_eq, decide_eq_true_iff, Value.type.injEq]
theorem is_ok (I : Inv K S0 Av g cells s) (ra : Rp K.ad (g.wd Av cells s.heap) a va) (rb : Rp K.ad (g.wd Av cells s.heap) b vb)
    (h : isTV a b = some c) : Both K S0 Av A g cells s E P (compareOp .Is va vb) (compareOp .IsNot va vb) c := by
  refine is_of I ?_
  cases b with
  | none => exact rb.noneE (isN_of ra h)
  | g v => cases a with
    | g u => exact bindE h fun T e1 h => mapE h fun U e2 e => e ▸ ra.gE (rb.gE (by rw [typV_inv e1, typV_inv e2, isSame_plain rfl, same_type]))
    | _ => exact noneE h
  | str y =>
    refine bindE h fun x hx h' => ?_
    replace h' : (if x = y then none else some false) = some c := h'
    have hx := strOf_inv hx
    subst hx
    by_cases hne : x = y
    · rw [if_pos hne] at h'; exact noneE h'
    · rw [if_neg hne] at h'
      exact someE h' (ra.strE fun t ex => rb.strE fun u ey => by
        show isSame.created (x == y) t u = pure false
        unfold isSame.created
        rw [beq_eq_false_iff_ne.mpr hne, beq_eq_false_iff_ne.mpr (Nat.ne_of_gt (I.tt _ _ ex).1), beq_eq_false_iff_ne.mpr (Nat.ne_of_gt (I.tt _ _ ey).1), beq_eq_false_iff_ne.mpr fun z : t = u => hne (Option.some.inj (ex.symm.trans (z ▸ ey)))]
        rfl)
  | _ => exact noneE h
end
end
end

section
open PySem PySem.W PyProof.Rows

theorem bool_index : typeLookup (.type "bool") "__index__" = pure (some (.builtin "int.__index__")) := by rw [typeLookup_type, builtinLookup_eq_fast]; kernel_rfl

section
variable {G : TG} {K : GK} {S0 : Reg} {Av F : Addr → Prop} {env : Env} {sc : Scope} {g g₁ : Gh} {es es₁ : ES} {s s₁ : Shared} {cells : List Cell}

noncomputable def PrimB (K : GK) (S0 : Reg) (Av : Addr → Prop) (g : Gh) (cells : List Cell) (s : Shared) (b : Bool) (P : Bool → Shared → Prop) : Prop :=
  ∀ g' s', Inv K S0 Av g' cells s' → Kp Av NoF g cells s g' cells s' → P b s'
theorem PrimB.here {b : Bool} {P : Bool → Shared → Prop} (h : PrimB K S0 Av g cells s b P) (I : Inv K S0 Av g cells s) : P b s := h g s I .refl
theorem PrimB.tok {b : Bool} {P : Bool → Shared → Prop} (h : PrimB K S0 Av g cells s b P) (I : Inv K S0 Av g cells s) {tk : Nat} (ht : s.toks ≤ tk) : P b { s with toks := tk } :=
  h g _ (I.grow (h' := s.heap) (fun _ _ => id) ht).1 (I.grow (h' := s.heap) (fun _ _ => id) ht).2
theorem Now.primB (n : Now K S0 Av F env sc g es s) {b : Bool} {Q : Bool → ES → Prop} {P : Bool → Shared → Prop} (h : PostT K S0 Av F env sc g es s Q P) (q : Q b es) : PrimB K S0 Av g es.cells s b P :=
  fun g' s' i k => h b s' es g' q ⟨i, n.env.kp k⟩ (k.weak fun _ h => h.elim)

theorem IsTup.of {h : Heap} {a : Addr} {vs : List Value} {n : Nat} (e : h.get? a = some (tupObj vs n)) : IsTup h a vs.toArray := ⟨_, e, rfl, _, rfl⟩
theorem IsList.of {h : Heap} {a : Addr} {vs : List Value} {n : Nat} (e : h.get? a = some (listObj vs n)) : h.IsList a vs.toArray := ⟨_, e, rfl, _, rfl⟩

theorem isEmpty_len {α : Type} (xs : List α) : xs.isEmpty = (xs.length == 0) := by cases xs <;> rfl
theorem isEmpty_list {α β : Type} {xs : List α} {vs : List β} (h : vs.length = xs.length) : vs.isEmpty = xs.isEmpty := by rw [isEmpty_len, isEmpty_len, h]
theorem isEmpty_arr {α β : Type} {xs : List α} {vs : List β} (h : vs.length = xs.length) : vs.toArray.isEmpty = xs.isEmpty := by rw [List.isEmpty_toArray]; exact isEmpty_list h
theorem lim63 {n m : Nat} (e : m = n) (h : n ≤ lim) : (m : Int) < 2 ^ 63 := Int.lt_of_le_of_lt (Int.ofNat_le.mpr (e ▸ h)) (by decide)

theorem truth_ok {x : TV} {v : Value} {b : Bool} {A : Around} {E : Value → Shared → Prop} {P : Bool → Shared → Prop} (hB : Base G K) (I : Inv K S0 Av g cells s) (r : Rp K.ad (g.wd Av cells s.heap) x v) (h : truthTV cells x = some b)
    (p : PrimB K S0 Av g cells s b P) : wpAny (model K.prog K.w) A (truthy v) P E s := by
  have t2 : s.toks ≤ s.toks + 1 + 1 := Nat.le_add_right _ 2
  have lst : ∀ {a : Addr} {vs : List Value} {n : Nat} {xs : List TV}, s.heap.get? a = some (listObj vs n) → vs.length = xs.length → xs.length ≤ lim ∧ (!xs.isEmpty) = b → wpAny (model K.prog K.w) A (truthy (.ref a)) P E s := fun e hl hm =>
    wpAny_truthy_list (IsList.of e) (lim63 hl hm.1) (by rw [isEmpty_arr hl, hm.2]; exact p.tok I t2)
  cases x with
  | none => exact someE h (fun p => r.noneE (truthy_none (p.here I))) p
  | bool => exact someE h (fun p => r.boolE (wpAny_truthy_bool (p.here I))) p
  | int => exact someE h (fun p => r.intE fun _ => PySem.P.truthy_int (p.here I)) p
  | str x => exact ifE h fun hl e => r.strE fun t _ => PySem.P.truthy_str (Int.not_le.mpr (lim63 rfl hl)) (by rw [show ((x.length : Int) != 0) = b from e ▸ (by rw [Bool.eq_iff_iff, bne_iff_ne, bne_iff_ne]; exact not_congr Int.ofNat_eq_zero)]; exact p.tok I t2)
  | list xs => exact ifE h fun hl e => r.listE' fun a vs n z1 z2 => lst z1.1 z2.length ⟨hl, e⟩
  | tup xs => exact ifE h fun hl e => r.tupE' fun a vs n z1 z2 => truthy_tuple (IsTup.of z1.1) (lim63 z2.length hl) (by rw [isEmpty_arr z2.length, e]; exact p.tok I t2)
  | ref n =>
    change truthC cells[n]? = some b at h
    cases hc : cells[n]? with
    | none => rw [hc] at h; exact noneE h
    | some c =>
      rw [hc] at h
      cases c with
      | list xs => exact ifE h fun hl e => r.refE fun a ha => (I.cell n _ a hc ha).elim fun vs q => q.elim fun k q => lst q.1 q.2.length ⟨hl, e⟩
      | dict kvs fx => exact ifE h fun hl e => r.refE fun a ha => (I.dictAt hc ha).elim fun l z => wpAny_truthy_dict (I.notMods hB ha) z.1 (lim63 z.2.length hl) (by rw [isEmpty_list z.2.length, e]; exact p.tok I t2)
      | _ => exact noneE h
  | _ => exact noneE h

/-- what is subscripted: it goes by its type's own __getitem__ -/
noncomputable def ItemOn (M : Model) (A : Around) (E : Value → Shared → Prop) (o i : Value) (P : Value → Shared → Prop) (s : Shared) : Prop :=
  ∃ T id, s.TypeIs o T ∧ typeLookup (.type T) "__getitem__" = pure (some (.builtin id)) ∧ wpAny M A (getItem o i) P E s

theorem ItemOn.of {M : Model} {A : Around} {E : Value → Shared → Prop} {o i : Value} {P : Value → Shared → Prop} {T id : String} (h1 : s.TypeIs o T) (h2 : typeLookup (.type T) "__getitem__" = pure (some (.builtin id))) (h3 : wpAny M A (getItem o i) P E s) : ItemOn M A E o i P s := ⟨T, id, h1, h2, h3⟩
theorem ItemOn.to {M : Model} {A : Around} {E : Value → Shared → Prop} {o o' i : Value} {P : Value → Shared → Prop} (e : o = o') (h : ItemOn M A E o' i P s) : ItemOn M A E o i P s := e ▸ h
theorem IsTup.typeIs {a : Addr} {l : Array Value} (h : IsTup s.heap a l) : s.TypeIs (.ref a) "tuple" := h.imp fun _ z => ⟨z.1, z.2.1⟩
theorem seqIndex_spec {k : Int} {n j : Nat} (h : seqIndex? k n = some j) : (k < 0 ∧ -(n : Int) ≤ k ∧ j = (k + n).toNat) ∨ (0 ≤ k ∧ k < n ∧ j = k.toNat) := by
  unfold seqIndex? at h
  by_cases hk : k < 0
  · simp only [hk, if_true] at h
    refine ifE h fun hc e => .inl ⟨hk, ?_, e.symm⟩
    have := of_decide_eq_true (Bool.and_eq_true_iff.mp hc).1
    lia
  · simp only [hk, if_false] at h
    exact ifE h fun hc e => .inr ⟨Int.not_lt.mp hk, of_decide_eq_true (Bool.and_eq_true_iff.mp hc).2, e.symm⟩
theorem seqIndex_b {k : Int} {n j : Nat} (h : seqIndex? k n = some j) (hn : n ≤ lim) : -2 ^ 63 ≤ k ∧ k < 2 ^ 63 :=
  have l := lim63 rfl hn
  (seqIndex_spec h).elim (fun z => ⟨Int.le_trans (Int.neg_le_neg (Int.le_of_lt l)) z.2.1, Int.lt_trans z.1 (by decide)⟩) fun z => ⟨Int.le_trans (by decide) z.1, Int.lt_trans z.2.1 l⟩

theorem getItem_list_any {prog : Program} {w : World} {A : Around} {E : Value → Shared → Prop} {l : Addr} {vs : List Value} {n : Nat} {k : Int} {t : Tok} {j : Nat} {x : Value} {P : Value → Shared → Prop}
    (hl : s.heap.get? l = some (listObj vs n)) (hz : vs.length ≤ lim) (hi : seqIndex? k vs.length = some j) (hx : vs[j]? = some x) (h : P x s) : wpAny (model prog w) A (getItem (.ref l) (.int k t)) P E s :=
  (seqIndex_spec hi).elim (fun z => wpAny_getItem_list_neg (IsList.of hl) z.1 z.2.1 (seqIndex_b hi hz).1 (List.getElem?_toArray.trans (z.2.2 ▸ hx)) h) fun z => wpAny_getItem_list (IsList.of hl) z.1 (seqIndex_b hi hz).2 (List.getElem?_toArray.trans (z.2.2 ▸ hx)) h

theorem listSubscript_bool {M : Model} {A : Around} {E : Value → Shared → Prop} {b : Bool} {Q : Option Int → Shared → Prop} (h : Q (some (if b then 1 else 0)) s) : wpAny M A (Builtin.List.listSubscript? (.bool b)) Q E s := by
  unfold Builtin.List.listSubscript?
  refine wpAny_bind (wpAny_specialOf (T := "bool") (PySem.typeIs_bool s b) bool_index ?_)
  show wpAny M A (asIndex (.bool b) >>= _) Q E s
  refine wpAny_bind (wpAny_of_eq (a := if b then 1 else 0) (by cases b <;> rfl) ?_)
  cases b <;> exact wpAny_pure h

theorem getItem_list_bool {prog : Program} {w : World} {A : Around} {E : Value → Shared → Prop} {l : Addr} {vs : List Value} {n : Nat} {b : Bool} {x : Value} {P : Value → Shared → Prop}
    (hl : s.heap.get? l = some (listObj vs n)) (hx : vs[if b then 1 else 0]? = some x) (h : P x s) : wpAny (model prog w) A (getItem (.ref l) (.bool b)) P E s := by
  have hL := IsList.of hl
  unfold getItem
  try with_reducible refine wpAny_holding ?_
  refine wpAny_bind (wpAny_sequenceKey hL.typeIs (by decide) ?_)
  refine wpAny_bind (wpAny_callSpecial?_slot (name := Str.ofString "__getitem__") hL.typeIs slot_list_getitem
    (wpAny_call_entry slot_list_getitem hL.typeIs entry_list_getitem ?_ (args_list_getitem _ _)))
  show wpAny _ _ (Builtin.List.listSubscript? (.bool b) >>= _) _ _ s
  refine wpAny_bind (listSubscript_bool ?_)
  have hj : (if b then 1 else 0 : Int) = ((if b then 1 else 0 : Nat) : Int) := by cases b <;> rfl
  rw [hj]
  show wpAny _ _ ((seqItemAt l (if b then 1 else 0 : Nat) >>= fun r => pure (r.map ((if b then 1 else 0 : Nat), ·))) >>= _) _ _ s
  refine wpAny_bind (wpAny_bind (wpAny_seqItemAt hl rfl (wpAny_pure ?_)))
  rw [show vs.toArray[if b then 1 else 0]? = some x from List.getElem?_toArray.trans hx]
  first
    | exact wpAny_bind (wpAny_pure (wpAny_pure ⟨x, rfl, wpAny_pure h⟩))
    | exact wpAny_pure ⟨x, rfl, wpAny_pure h⟩

theorem strOk_at {y : Str} {j c : Nat} (h : PyData.strOk y = true) (e : y.cps[j]? = some c) : PyData.strOk ⟨#[c]⟩ = true := by
  have hj := Array.getElem?_eq_some_iff.mp e
  have q := Array.all_eq_true.mp (show y.cps.all _ = true from h) j hj.1
  rw [hj.2] at q
  show (#[c]).all _ = true
  simpa using q
theorem item_ok {o i x : TV} {vo vi : Value} {A : Around} {E P : Value → Shared → Prop} (I : Inv K S0 Av g cells s) (ro : Rp K.ad (g.wd Av cells s.heap) o vo) (ri : Rp K.ad (g.wd Av cells s.heap) i vi)
    (h : itemTV cells o i = some x) (p : PrimP K S0 Av g cells s cells x P) : ItemOn (model K.prog K.w) A E vo vi P s := by
  unfold itemTV at h
  cases hd : dictTV cells o with
  | some kvs =>
    rw [hd] at h
    refine bindE h fun k hk e => (key_inv I ri hk).elim fun t y => y.1 ▸ ?_
    cases o with
    | ref n => exact (show ∃ fx, cells[n]? = some (.dict kvs fx) from cellD_inv hd).elim fun fx hc => ro.refE fun a ha => (I.dictAt hc ha).elim fun l z => (lookD_valueAt k z.2).elim (fun q => q.elim fun tv q => q.elim fun v q =>
        .of z.1.typeIs slot_dict_getitem.lookup (wpAny_getItem_of (strKind_is ..) z.1.mapOf q.2.1 (p.tok I (Nat.le_succ _) (Option.some.inj (q.1.symm.trans e) ▸ q.2.2)))) fun q => noneE (q.1.symm.trans e)
    | _ => exact noneE hd
  | none =>
    rw [hd] at h
    cases i with
    | int k =>
      replace h : itemInt cells o k = some x := h
      unfold itemInt at h
      cases ho : strOf o with
      | some y =>
        rw [ho] at h
        have ho := strOf_inv ho
        subst ho
        refine bindE h fun _ hl h' => ifE hl fun hl _ => mapE h' fun c hc e => ?_
        subst e
        refine ro.strE fun t ex => ri.intE fun u => bindE hc fun j h1 h2 => .of (typeIs_str ..) F.slot_str_getitem.lookup (PySem.P.getItem_str ?_ hc (p.str I ?_))
        · rw [decide_eq_false (Int.not_lt.mpr (seqIndex_b h1 hl).1), decide_eq_false (Int.not_le.mpr (seqIndex_b h1 hl).2)]; rfl
        · exact strOk_at (I.tt _ _ ex).2.2 h2
      | none =>
        rw [ho] at h
        exact bindE h fun xs hs h => bindE h fun _ hl h => ifE hl fun hl _ => bindE h fun j h1 h2 => ri.intE fun u => (seqOf_inv I ro hs).elim
          (fun q => q.elim fun a q => q.elim fun vs q => q.elim fun n q => (F2.get q.2.2 h2).elim fun v z => .to q.1 (.of (IsList.of q.2.1).typeIs slot_list_getitem.lookup (getItem_list_any q.2.1 (q.2.2.length ▸ hl) (q.2.2.length ▸ h1) z.1 (p.here I z.2))))
          fun q => q.elim fun a q => q.elim fun vs q => q.elim fun n q => (F2.get q.2.2 h2).elim fun v z => .to q.1 (.of (IsTup.of q.2.1).typeIs F.slot_tuple_getitem.lookup (PySem.P.getItem_tuple q.2.1 (seqIndex_b h1 hl).1 (seqIndex_b h1 hl).2 (k := j) (by rw [List.size_toArray, q.2.2.length]; exact h1) (List.getElem?_toArray.trans z.1) (p.here I z.2)))
    | bool b => exact bindE h fun xs hs e => ri.boolE ((listOf_inv I ro hs).elim fun a q => q.elim fun vs q => q.elim fun n q => (F2.get q.2.2 e).elim fun v z => .to q.1 (.of (IsList.of q.2.1).typeIs slot_list_getitem.lookup (getItem_list_bool q.2.1 z.1 (p.here I z.2))))
    | _ => exact noneE h

theorem str_indices (lo hi st : Option Int) (n : Nat) : Builtin.Str.strSliceIndices lo hi (st.getD 1) n = sliceRange (sliceBounds lo hi st n).1 (sliceBounds lo hi st n).2.1 (sliceBounds lo hi st n).2.2 := rfl

theorem bounds_1 {n : Nat} {lo hi st : Option Int} (h1 : st.getD 1 = 1) : sliceBounds lo hi st n = (↑(lo.elim 0 (clipAt n)), ↑(hi.elim n (clipAt n)), 1) := by
  rw [← sliceBounds_plain]; unfold sliceBounds; rw [h1]; rfl
theorem clipAt_le (n : Nat) (i : Int) : clipAt n i ≤ n := Int.ofNat_le.mp (clipAt_cast n i ▸ Int.max_le.mpr ⟨Int.natCast_nonneg n, Int.min_le_right _ _⟩)
theorem elim_le {n d : Nat} (o : Option Int) (h : d ≤ n) : o.elim d (clipAt n) ≤ n := by
  cases o with
  | none => exact h
  | some i => exact clipAt_le n i
theorem pick_one {α : Type} (xs : List α) (lo hi st : Option Int) (h1 : st.getD 1 = 1) : pick xs lo hi st = ((xs.drop (lo.elim 0 (clipAt xs.length))).take (hi.elim xs.length (clipAt xs.length) - lo.elim 0 (clipAt xs.length))) := by
  unfold pick
  rw [bounds_1 h1]
  simp only [sliceRange_one]
  have := pick_run xs.toArray (lo.elim 0 (clipAt xs.length)) (hi.elim xs.length (clipAt xs.length) - lo.elim 0 (clipAt xs.length))
  simpa using this
theorem pick_len_eq {α : Type} (xs : List α) (lo hi st : Option Int) (h1 : st.getD 1 = 1) (hl : (sliceRange (sliceBounds lo hi st xs.length).1 (sliceBounds lo hi st xs.length).2.1 (sliceBounds lo hi st xs.length).2.2).length = xs.length) : pick xs lo hi st = xs := by
  rw [bounds_1 h1] at hl
  simp only [sliceRange_one, List.length_map, List.length_range] at hl
  rw [pick_one xs lo hi st h1, hl]
  have b := elim_le (n := xs.length) hi (Nat.le_refl _)
  generalize hi.elim xs.length (clipAt xs.length) = B at *
  generalize lo.elim 0 (clipAt xs.length) = A at *
  cases A with
  | zero => exact List.take_length
  | succ A => rw [List.length_eq_zero_iff.mp (show xs.length = 0 by lia)]; rfl

theorem pick_map {α β : Type} (f : α → β) (xs : List α) (lo hi st : Option Int) : pick (xs.map f) lo hi st = (pick xs lo hi st).map f := by
  unfold pick
  rw [List.map_filterMap, List.length_map]
  congr 1
  funext i
  rw [List.getElem?_map]
theorem pick_length_le {α : Type} (xs : List α) (lo hi st : Option Int) : (pick xs lo hi st).length ≤ xs.length := by
  have := slicePick_size_le (xs.map fun _ => Value.none).toArray lo hi st
  have e : (slicePick (xs.map fun _ => Value.none).toArray lo hi st).toList = pick (xs.map fun _ => Value.none) lo hi st := by
    unfold slicePick pick
    simp
  rw [← Array.length_toList, e, pick_map, List.length_map, List.size_toArray, List.length_map] at this
  exact this

theorem part_inv {ad : Str → Option Addr} {W : Wd} {x : TV} {v : Value} {k : Option Int} (r : Rp ad W x v) (h : intPart x = some k) : ∃ p : Option (Int × Tok), v = partValue p ∧ p.map (·.1) = k ∧ IsPart v k := by
  cases x with
  | none => exact someE h (r.noneE ⟨none, rfl, rfl, .none⟩)
  | int i => exact someE h (r.intE fun t => ⟨some (i, t), rfl, rfl, .int _ _⟩)
  | _ => exact noneE h

theorem strOk_pick {x : Str} {lo hi st : Option Int} (h : PyData.strOk x = true) : PyData.strOk ⟨(pick x.cps.toList lo hi st).toArray⟩ = true := by
  unfold PyData.strOk at h ⊢
  rw [List.all_toArray, List.all_eq_true]
  rw [← Array.all_toList, List.all_eq_true] at h
  exact fun c hc => (List.mem_filterMap.mp hc).elim fun i z => h c (List.mem_of_getElem? z.2)

theorem slice_core {o l u st x : TV} {a : Addr} {ad : Str → Option Addr} {W : Wd} {vo vl vu vst : Value} {A : Around} {E P : Value → Shared → Prop} {value slice : Expr} {ops : List Value} (I : Inv K S0 Av g cells s) (ro : Rp K.ad (g.wd Av cells s.heap) o vo)
    (rl : Rp ad W l vl) (ru : Rp ad W u vu) (rs : Rp ad W st vst) (he : s.heap.get? a = some { cls := .type "slice", data := .fields #[vl, vu, vst] })
    (h : sliceTV cells o l u st = some x) (p : PrimP K S0 Av g cells s cells x P) (hs : subscripted slice false vo (.ref a) = operate ops (getItem vo (.ref a))) : wpAny (model K.prog K.w) A (subscriptTail value slice vo (.ref a)) P E s := by
  refine bindE h fun lo e1 h => bindE h fun hi e2 h => bindE h fun sp e3 h => ?_
  by_cases hne : sp = some 0
  · rw [if_pos hne] at h; exact noneE h
  · rw [if_neg hne] at h
    refine (part_inv rl e1).elim fun pl ql => (part_inv ru e2).elim fun pu qu => (part_inv rs e3).elim fun ps qs => ?_
    unfold sliceAt at h
    cases ho : strOf o with
    | some y =>
      rw [ho] at h
      have ho := strOf_inv ho
      subst ho
      refine ifE h fun hl e => ?_
      subst e
      revert hs
      refine ro.strE fun t ex hs => tail_any (T := "str") (typeIs_str ..) F.slot_str_getitem.lookup (wpAny_getItem_str_slice ⟨_, he, rfl, by rw [ql.1, qu.1, qs.1]⟩ ?_ ?_) hs
      · rw [qs.2.1]
        cases sp with
        | none => rfl
        | some k => exact beq_eq_false_iff_ne.mpr fun z => hne (congrArg some z)
      · unfold sliceMade slicePicked
        rw [ql.2.1, qu.2.1, qs.2.1, str_indices]
        have e : (⟨((sliceRange (sliceBounds lo hi sp y.length).1 (sliceBounds lo hi sp y.length).2.1 (sliceBounds lo hi sp y.length).2.2).filterMap (y.cps[·]?)).toArray⟩ : Str) = ⟨(pick y.cps.toList lo hi sp).toArray⟩ := by
          unfold pick
          simp only [Array.length_toList, Array.getElem?_toList]
          rfl
        rw [e]
        refine ite2 (f := fun m : Made => m.post P s) (fun hc => ?_) fun _ => ⟨lim_le (Nat.le_trans (pick_length_le y.cps.toList lo hi sp) hl), p.str I (strOk_pick (I.tt _ _ ex).2.2)⟩
        have hc := Bool.and_eq_true_iff.mp hc
        have e : pick y.cps.toList lo hi sp = y.cps.toList := pick_len_eq _ _ _ _ (eq_of_beq hc.1) (eq_of_beq hc.2)
        rw [e] at p
        exact p.here I (.str ex)
    | none =>
      rw [ho] at h
      exact bindE h fun xs hx h => ifE h fun hl e => (listOf_inv I ro hx).elim fun b q => q.elim fun vs q => q.elim fun n q => by
        subst e
        rw [q.1] at hs ⊢
        refine tail_any (T := "list") (IsList.of q.2.1).typeIs slot_list_getitem.lookup (wpAny_getItem_list_slice (IsList.of q.2.1) ⟨_, he, rfl, rfl⟩ ql.2.2 qu.2.2 qs.2.2 hne ?_ (by rw [List.size_toArray, q.2.2.length]; exact lim_le hl)) hs
        have e : slicePick vs.toArray lo hi sp = (pick vs lo hi sp).toArray := by
          unfold slicePick pick
          simp only [List.size_toArray, List.getElem?_toArray]
        rw [e]
        exact p.new I (o := listObj (pick vs lo hi sp) 0) (Nat.le_refl _) rfl fun W l hV => .list hV (by
          have z := (RpL.mono l q.2.2).filterMap (sliceRange (sliceBounds lo hi sp xs.length).1 (sliceBounds lo hi sp xs.length).2.1 (sliceBounds lo hi sp xs.length).2.2)
          unfold pick
          rw [q.2.2.length]; exact z)
theorem slice_ok {o l u st x : TV} {vo vl vu vst : Value} {A : Around} {E P : Value → Shared → Prop} {value slice : Expr} {ops : List Value} (I : Inv K S0 Av g cells s) (ro : Rp K.ad (g.wd Av cells s.heap) o vo)
    (rl : Rp K.ad (g.wd Av cells s.heap) l vl) (ru : Rp K.ad (g.wd Av cells s.heap) u vu) (rs : Rp K.ad (g.wd Av cells s.heap) st vst)
    (h : sliceTV cells o l u st = some x) (p : PrimP K S0 Av g cells s cells x P)
    (hs : subscripted slice false vo (.ref s.heap.objs.size) = operate ops (getItem vo (.ref s.heap.objs.size))) :
    wpAny (model K.prog K.w) A (subscriptTail value slice vo (.ref s.heap.objs.size)) P E { s with heap := s.heap.push { cls := .type "slice", data := .fields #[vl, vu, vst] } } :=
  have J := I.grow (h' := s.heap.push { cls := .type "slice", data := .fields #[vl, vu, vst] }) (fun a o e => Heap.get?_push_of_some _ e) (Nat.le_refl s.toks)
  slice_core J.1 (ro.mono J.2.le) rl ru rs (Heap.get?_push_size _ rfl) h (fun v g' s' i k' r => p v g' s' i (J.2.trans k') r) hs
end
end

section
open PySem PySem.W PyProof.Rows

section
variable {G : TG} {K : GK} {S0 : Reg} {Av F : Addr → Prop} {env : Env} {sc : Scope} {g g₁ : Gh} {es es₁ : ES} {s s₁ : Shared} {cells : List Cell}

theorem keyIs {e : DictEntry} {x y : Str} (h : ∃ t, e.key = .str x t) : e.key.isStr y = (x == y) ∧ e.refKey = false := h.elim fun t h => by
  unfold DictEntry.refKey
  rw [h]; exact ⟨rfl, rfl⟩
theorem getL_pos {name : Str} {e : DictEntry} {es : List DictEntry} (h : e.key.isStr name = true) : getL name (e :: es) = some (some e.val) := by
  unfold getL; rw [List.find?_cons_of_pos (p := fun x : DictEntry => x.key.isStr name) h]
theorem getL_neg {name : Str} {e : DictEntry} {es : List DictEntry} (h : e.key.isStr name = false) (h' : e.refKey = false) : getL name (e :: es) = getL name es := by
  unfold getL; rw [List.find?_cons_of_neg (p := fun x : DictEntry => x.key.isStr name) (by rw [h]; exact Bool.false_ne_true), List.any_cons, h', Bool.false_or]
theorem nsR_get {ad : Str → Option Addr} {W : Wd} (name : Str) {kvs : List (Str × TV)} {es : List DictEntry} (h : NsR ad W kvs es) : (∃ tv v, lookD kvs name = some tv ∧ getL name es = some (some v) ∧ Rp ad W tv v) ∨ (lookD kvs name = none ∧ getL name es = some none) := by
  refine F2.ind (motive := fun kvs es => (∃ tv v, lookD kvs name = some tv ∧ getL name es = some (some v) ∧ Rp ad W tv v) ∨ (lookD kvs name = none ∧ getL name es = some none)) (.inr ⟨rfl, rfl⟩) (fun p e kvs es a _ ih => ?_) h
  by_cases hx : p.1 = name
  · exact .inl ⟨p.2, e.val, lookD_pos hx, getL_pos ((keyIs a.1).1.trans (beq_iff_eq.mpr hx)), a.2⟩
  · rw [lookD_neg hx, getL_neg ((keyIs a.1).1.trans (beq_eq_false_iff_ne.mpr hx)) (keyIs (y := name) a.1).2]; exact ih
theorem nsR_put {ad : Str → Option Addr} {W : Wd} (name : Str) {tv : TV} {v : Value} (hsh : Int) (t : Tok) (r : Rp ad W tv v) {kvs : List (Str × TV)} {es : List DictEntry} (h : NsR ad W kvs es) : NsR ad W (putD kvs name tv) (putL name hsh (.str name t) v es) := by
  refine F2.ind (motive := fun kvs es => NsR ad W (putD kvs name tv) (putL name hsh (.str name t) v es)) (.cons ⟨⟨t, rfl⟩, r⟩ .nil) (fun p e kvs es a q ih => ?_) h
  show F2 _ (if p.1 = name then _ else _) (if e.key.isStr name = true then _ else _)
  rw [(keyIs a.1).1]
  by_cases hx : p.1 = name
  · rw [if_pos hx, if_pos (beq_iff_eq.mpr hx)]; exact .cons ⟨a.1, r⟩ q
  · rw [if_neg hx, if_neg (fun z => hx (eq_of_beq z))]; exact .cons a ih
theorem putL_length (name : Str) (h : Int) (k v : Value) (es : List DictEntry) : (putL name h k v es).length ≤ es.length + 1 := by
  induction es with
  | nil => exact Nat.le_refl 1
  | cons e r ih => exact ite2 (f := fun l : List DictEntry => l.length ≤ r.length + 1 + 1) (fun _ => Nat.le_succ _) fun _ => Nat.succ_le_succ ih

theorem Rp.handed {ad : Str → Option Addr} {W : Wd} {tv : TV} {v : Value} (r : Rp ad W tv v) (h : notG tv = true) : handedIn v = true := by
  cases tv with
  | g => exact absurd h Bool.false_ne_true
  | none => exact r.noneE rfl
  | bool => exact r.boolE rfl
  | int => exact r.intE fun _ => rfl
  | str => exact r.strE fun _ _ => rfl
  | su => exact r.suE fun _ _ => rfl
  | list => exact r.listE' fun _ _ _ _ _ => rfl
  | tup => exact r.tupE' fun _ _ _ _ _ => rfl
  | rng => exact r.rngE fun _ _ _ _ _ => rfl
  | ref => exact r.refE fun _ _ => rfl
  | fn => exact r.fnE fun _ _ => rfl
  | vals => exact r.elim fun _ r => r.elim fun _ r => r.elim fun _ z => z.1 ▸ rfl
  | bm => exact r.elim fun _ r => r.elim fun _ r => r.elim fun _ z => z.1 ▸ rfl

theorem Inv.frag (hB : Base G K) (I : Inv K S0 Av g cells s) : K.fr.In s.heap := fun a o e => (I.base a o (hB.inB a o e)).1

/-- an instance and its table -/
structure InstR (K : GK) (W : Wd) (h : Heap) (c : Str) (kvs : List (Str × TV)) (x dx C : Addr) (es : List DictEntry) (k : Nat) : Prop where
  ad : K.ad c = some C
  inst : InstAt h x (instObj C dx) C (some (dictOf es k))
  ns : NsR K.ad W kvs es
  dict : h.get? dx = some (dictOf es k)
theorem Inv.instAt (I : Inv K S0 Av g cells s) {n d : Nat} {c : Str} {kvs : List (Str × TV)} {x : Addr} (hc : cells[n]? = some (.obj c d)) (hd : cells[d]? = some (.ns kvs)) (hx : g.am[n]? = some x) :
    ∃ dx, g.am[d]? = some dx ∧ ∃ C es k, InstR K (g.wd Av cells s.heap) s.heap c kvs x dx C es k :=
  (I.cell n _ x hc hx).elim fun C h => h.elim fun dx h => (I.cell d _ dx hd h.2.2).elim fun es q => q.elim fun k q => ⟨dx, h.2.2, C, es, k, h.2.1, ⟨h.1, rfl, rfl, q.1⟩, q.2, q.1⟩

theorem get_obj (hB : Base G K) (I : Inv K S0 Av g cells s) {n d : Nat} {c a : Str} {kvs : List (Str × TV)} {x : TV} {vo : Value} {A : Around} {E P : Value → Shared → Prop} {ex : Bool} (hc : cells[n]? = some (.obj c d)) (hd : cells[d]? = some (.ns kvs)) (ro : Rp K.ad (g.wd Av cells s.heap) (.ref n) vo)
    (hok : G.attrOk c a = true) (h : (lookD kvs a).filter notG = some x) (p : PrimP K S0 Av g cells s cells x P) : wpAny (model K.prog K.w) A (getAttr vo a ex) P E s :=
  have h := Option.filter_eq_some_iff.mp h
  ro.refE fun y e => (I.instAt hc hd e).elim fun dx q => q.2.elim fun C q => q.elim fun es q => q.elim fun k q =>
    have D := hB.attr _ C a q.ad hok
    (nsR_get a q.ns).elim (fun z => z.elim fun tv z => z.elim fun v z => D.find.elim fun attr f =>
      have r : Rp K.ad (g.wd Av cells s.heap) x v := Option.some.inj (z.1.symm.trans h.1) ▸ z.2.2
      get_value (I.frag hB) q.inst (plainGet_of D.plain).1 (findObj_own D.has f.1 f.2 z.2.1) (r.handed h.2) (p.tok I (Nat.le_succ _) r)) fun z => noneE (z.1.symm.trans h.1)
theorem get_slot (hB : Base G K) (I : Inv K S0 Av g cells s) {n : Nat} {c a : Str} {vs : List (Option TV)} {x : TV} {vo : Value} {A : Around} {E P : Value → Shared → Prop} {ex : Bool} (hc : cells[n]? = some (.slots c vs)) (ro : Rp K.ad (g.wd Av cells s.heap) (.ref n) vo)
    (h : ((G.slotOf c a).bind fun i => ((vs[i]?).join).filter notG) = some x) (p : PrimP K S0 Av g cells s cells x P) : wpAny (model K.prog K.w) A (getAttr vo a ex) P E s :=
  bindE h fun i hs h => have h := Option.filter_eq_some_iff.mp h
  ro.refE fun y e => (I.cell n _ y hc e).elim fun C q => q.elim fun dx q => q.elim fun us q =>
    have X : K.fr.In s.heap := I.frag hB
    have D := hB.slot _ C a i q.2.1 hs
    have J : InstAt s.heap y { cls := .ref C, dict := some dx, data := .plain, slots := us.toArray } C (some emptyDict) := ⟨q.1, rfl, rfl, q.2.2.1.1⟩
    D.slot.elim fun pd f => (q.2.2.2 i _ h.1).elim fun v z =>
      get_bind X J (plainGet_of D.plain).1 (findObj_data D.cls f.1 f.2.1 f.2.2.1) (plainGet_of D.plain).2 (wpAny_call (slot_get (s := { s with toks := s.toks + 1 }) X J f.2.2.2.1 ((congrArg Option.join List.getElem?_toArray).trans z.1) (handed_on (z.2.handed h.2) (p.tok I (Nat.le_succ _) z.2))))

noncomputable def allBut (h : Heap) (L dx : Addr) : List (Addr × Obj) := (List.range h.objs.size).filterMap fun a => if a = L ∨ a = dx then none else (h.get? a).map fun o => (a, o)
theorem mem_allBut {h : Heap} {L dx a : Addr} {o : Obj} : (a, o) ∈ allBut h L dx ↔ h.get? a = some o ∧ a ≠ L ∧ a ≠ dx := by
  refine List.mem_filterMap.trans ⟨fun z => z.elim fun b z => ?_, fun z => ⟨a, List.mem_range.mpr (Heap.lt_size z.1), by rw [if_neg (fun y => y.elim z.2.1 z.2.2), z.1]; rfl⟩⟩
  by_cases hb : b = L ∨ b = dx
  · have e := z.2; rw [if_pos hb] at e; exact noneE e
  · have e := z.2
    rw [if_neg hb] at e
    exact mapE e fun o' e q => by
      rw [← (Prod.mk.inj q).1, ← (Prod.mk.inj q).2]
      exact ⟨e, fun z => hb (.inl z), fun z => hb (.inr z)⟩

/-- the whole heap as a ledger: what a rule over frames and ledgers changes, seen from without -/
theorem ledger {h : Heap} {L : Addr} {m : Str → Option Value} (hn : h.Ns L m) {dx : Addr} {o : Obj} (e : h.get? dx = some o) (hne : dx ≠ L) : Fr {} L h m ∧ News {} L h ((dx, o) :: allBut h L dx) :=
  ⟨⟨hn, fun b o e => noneE (show (none : Option Obj) = some o from e), Nat.zero_le _⟩, fun p hp => (List.mem_cons.mp hp).elim (fun z => z ▸ ⟨e, hne, rfl⟩) fun hp => have z := mem_allBut.mp hp; ⟨z.1, z.2.1, rfl⟩⟩

/-- a store into an instance's table or slot: what is behind it -/
theorem after_store {h h' : Heap} {L dx : Addr} {o' : Obj} (N : News {} L h' ((dx, o') :: allBut h L dx)) : h'.get? dx = some o' ∧ ∀ b ob, b ≠ L → b ≠ dx → h.get? b = some ob → h'.get? b = some ob :=
  ⟨(N _ (.head _)).1, fun _ _ h1 h2 e => (N _ (.tail _ (mem_allBut.mpr ⟨e, h1, h2⟩))).1⟩

theorem ns_one {h : Heap} {a : Addr} {m m' : Str → Option Value} (h1 : h.Ns a m) (h2 : h.Ns a m') : m = m' := by
  obtain ⟨o, es, ep, q1, q2, _, q3⟩ := h1
  obtain ⟨o', es', ep', r1, r2, _, r3⟩ := h2
  rw [Option.some.inj (q1.symm.trans r1), r2] at q2
  injection q2 with q2
  subst q2
  exact funext fun x => (q3 x).symm.trans (r3 x)

/-- a changing thing changes, and the frame's own table is laid anew -/
theorem Now.setCellL (n : Now K S0 Av F env sc g es s) {i : Nat} {a : Addr} {o' : Obj} {c c' : Cell} {h' : Heap} {tk : Nat} {m : Str → Option Value} (hc : es.cells[i]? = some c) (ha : g.am[i]? = some a) (hd : isFix c = false)
    (hm : s.heap.Ns env.locals m) (hm' : h'.Ns env.locals m) (hk : ∀ b o, b ≠ env.locals → b ≠ a → s.heap.get? b = some o → h'.get? b = some o) (e : h'.get? a = some o') (ht : s.toks ≤ tk)
    (hr : (g.wd Av es.cells s.heap).Le (g.wd Av (es.cells.set i c') h') → CellR K (g.wd Av (es.cells.set i c') h') h' a c') :
    Now K S0 Av F env sc g { es with cells := es.cells.set i c' } { s with heap := h', toks := tk } ∧ Kp Av F g es.cells s g (es.cells.set i c') { s with heap := h', toks := tk } :=
  have I := n.inv
  have R := n.env
  have hl : Live g.am es.cells a := ⟨i, c, ha, hc, hd⟩
  have nL : ∀ b, ¬ Av b → b ≠ env.locals := fun b h z => h (z ▸ R.fsub _ R.locF)
  have nA : ∀ b, Av b → b ≠ a := fun b h z => I.offAt ha (z ▸ h)
  have le : (g.wd Av es.cells s.heap).Le (g.wd Av (es.cells.set i c') h') := ⟨fun b o z => ⟨hk b o (nL b z.2.1) (fun y => z.2.2 (y ▸ hl)) z.1, z.2.1, fun h => z.2.2 (live_set ha hl h)⟩, id, fun _ _ => id⟩
  have hold : ∀ b o, s.heap.get? b = some o → ∃ o', h'.get? b = some o' := fun b o q => (Classical.em (b = a)).elim (fun hb => ⟨o', hb ▸ e⟩) fun hb => (Classical.em (b = env.locals)).elim (fun z => hm'.imp fun _ h => h.elim fun _ h => h.elim fun _ h => z ▸ h.1) fun z => ⟨o, hk b o z hb q⟩
  ⟨⟨I.to' le ht (fun b h => (I.avs b h).elim (hold b)) (fun b h => (I.ams b h).elim (hold b)) (I.len.trans List.length_set.symm) I.nodup I.apart I.off
      (fun j d b hd' hb => (set_at hd').elim (fun y => by rw [y.1] at hb; rw [y.2, ← Option.some.inj (ha.symm.trans hb)]; exact hr le) fun y => (I.cell j d b y.2 hb).mono le fun o => hk b o (nL b (I.offAt hb)) fun (z : b = a) => y.1 (I.am_inj hb (z ▸ ha))) (I.ttl ht)
      (I.frm.to fun b hb d => ⟨hb, (Classical.em (b = env.locals)).elim (fun z => z ▸ .ns hm') fun z => d.keep fun o => hk b o z (nA b hb)⟩),
    R.step le R.fsub (fun _ _ _ _ => id) (fun m₁ h => ns_one hm h ▸ hm') fun b _ h1 h2 h => h.imp fun o => And.imp_left (hk b o h2 (nA b h1))⟩,
    le, fun b o hb hF q => ⟨o, hk b o (fun z => hF (z ▸ R.locF)) (nA b hb) q, .inl rfl⟩, ht, hold⟩

theorem slR_set {ad : Str → Option Addr} {W : Wd} {xs : List (Option TV)} {vs : List (Option Value)} {i : Nat} {x : TV} {v : Value} (hi : i < xs.length) (r : Rp ad W x v) (q : SlR ad W xs vs) : SlR ad W (xs.set i (some x)) ((vs.toArray ++ Array.replicate (i + 1 - vs.toArray.size) none).setIfInBounds i (some v)).toList := fun j tv hj => by
  rw [Array.getElem?_toList]
  by_cases hij : j = i
  · rw [hij, List.getElem?_set_self hi] at hj
    rw [hij, Array.getElem?_setIfInBounds_self_of_lt (by rw [Array.size_append, Array.size_replicate]; omega)]
    exact ⟨v, rfl, (Option.some.inj hj) ▸ r⟩
  · rw [List.getElem?_set_ne (Ne.symm hij)] at hj
    refine (q j tv hj).imp fun u z => ⟨?_, z.2⟩
    have hlt : j < vs.length := by
      cases hz : vs[j]? with
      | none => have := z.1; rw [hz] at this; exact noneE this
      | some _ => exact (List.getElem?_eq_some_iff.mp hz).1
    rw [Array.getElem?_setIfInBounds_ne (Ne.symm hij), Array.getElem?_append_left (by rw [List.size_toArray]; exact hlt), List.getElem?_toArray]
    exact z.1

theorem setattr_ok (hB : Base G K) (n : Now K S0 Av F env sc g es s) {o x : TV} {a : Str} {vo vx : Value} {A : Around} {E : Value → Shared → Prop} {Q : ES → Prop} {P : Shared → Prop} {cells' : List Cell}
    (ro : Rp K.ad (g.wd Av es.cells s.heap) o vo) (rx : Rp K.ad (g.wd Av es.cells s.heap) x vx) (h : SetA G es.cells o a x cells') (q : Q { es with cells := cells' }) (p : PostU K S0 Av F env sc g es s Q P) :
    wpAny (model K.prog K.w) A (setAttr vo a vx) (fun _ => P) E s := by
  have I := n.inv
  have X := I.frag hB
  refine n.env.ns.elim fun m hm => ?_
  replace hm := hm.1
  have nL : ∀ i b, g.am[i]? = some b → b ≠ env.locals := fun i b h z => I.offAt h (z ▸ n.env.fsub _ n.env.locF)
  have off : ∀ {h : Heap} {L dx : Addr} (p : Addr × Obj), p ∈ allBut h L dx → p.1 ≠ dx := fun p hp => (mem_allBut.mp hp).2.2
  induction h with
  | obj hc hd hok hkl =>
    refine ro.refE fun y e => (I.instAt hc hd e).elim fun dx q' => q'.2.elim fun C z => z.elim fun es' z => z.elim fun k z => ?_
    have D := hB.attr _ C _ z.ad hok
    have L := ledger hm z.dict (nL _ _ q'.1)
    refine set_plain X z.inst D.set (osa_dict (s := { s with toks := s.toks + 1 }) (pre := []) L.1 L.2 X z.inst rfl D.over D.taker D.has ?_ (fun _ h => nomatch h) off (putName_dict ..) rfl (Nat.le_trans (putL_length ..) (z.ns.length ▸ Nat.le_trans (Nat.succ_le_succ hkl) (by decide))) fun h' F' N' => ?_)
    · rw [lookIn_dict]
      exact (nsR_get _ z.ns).elim (fun y => y.elim fun _ y => y.elim fun _ y => y.2.1 ▸ rfl) fun y => y.2 ▸ rfl
    · have z1 := after_store N'
      have J := n.setCellL (c' := .ns (putD _ _ _)) (tk := s.toks + 1 + 1) hd q'.1 rfl hm F'.ns z1.2 z1.1 (Nat.le_add_right _ 2) fun le => ⟨_, _, z1.1, nsR_put _ _ _ (rx.mono le) (NsR.mono le z.ns)⟩
      exact p _ _ g q J.1 J.2
  | slot hc hs hi =>
    refine ro.refE fun y e => (I.cell _ _ y hc e).elim fun C z => z.elim fun dx z => z.elim fun us z => ?_
    have D := hB.slot _ C _ _ z.2.1 hs
    have J : InstAt s.heap y { cls := .ref C, dict := some dx, data := .plain, slots := us.toArray } C (some emptyDict) := ⟨z.1, rfl, rfl, z.2.2.1.1⟩
    refine D.slot.elim fun pd f => ?_
    have L := ledger hm z.1 (nL _ _ e)
    refine set_plain X J D.set (osa_descr (s := { s with toks := s.toks + 1 }) KF.slot_mset X J D.over f.2.2.2.2.1 f.2.2.2.2.2 (slot_set (s := { s with toks := s.toks + 1 }) (pre := []) L.1 L.2 X J f.2.2.2.1 (Nat.lt_trans D.small (by decide)) (fun _ h => nomatch h) off rfl rfl fun h' F' N' => ?_))
    have z1 := after_store N'
    have J := n.setCellL (c' := .slots _ _) (tk := s.toks + 1) hc e rfl hm F'.ns z1.2 z1.1 (Nat.le_succ _) fun le => ⟨C, dx, _, by rw [Array.toArray_toList]; exact z1.1, z.2.1, le.v _ _ z.2.2.1, slR_set hi (rx.mono le) (SlR.mono le z.2.2.2)⟩
    exact p _ _ g q J.1 J.2
end
end

section
open PySem PySem.W PyProof.Rows

section
variable {G : TG} {K : GK} {S0 : Reg} {Av F : Addr → Prop} {env : Env} {sc : Scope} {g g₁ : Gh} {es es₁ : ES} {s s₁ : Shared} {cells : List Cell}

theorem eq_ok {a b : TV} {c : Bool} {va vb : Value} {A : Around} {E P : Value → Shared → Prop} (hA : A.units < 9000) (I : Inv K S0 Av g cells s) (ra : Rp K.ad (g.wd Av cells s.heap) a va) (rb : Rp K.ad (g.wd Av cells s.heap) b vb)
    (h : eqTV cells a b = some c) : Both K S0 Av A g cells s E P (compareOp .Eq va vb) (compareOp .NotEq va vb) c :=
  bindE h fun x e1 h => bindE h fun y e2 h => ifE h fun hd e => e ▸ (I.reads ra e1).elim fun as r1 => (I.reads rb e2).elim fun bs r2 =>
    have hu : A.units + min x.depth y.depth < cLine := Nat.lt_of_lt_of_le (Nat.add_lt_add_of_lt_of_le hA (Nat.le_trans (Nat.min_le_left _ _) hd.1)) (by decide)
    ⟨fun p => SeqAt.compareEq_reads r1.1 r2.1 r1.2 r2.2 hu (p.here I (.bool _)), fun p => SeqAt.compareNe_reads r1.1 r2.1 r1.2 r2.2 hu (p.here I (.bool _))⟩
theorem cmpI_inv {f : Int → Int → Bool} {a b : TV} {c : Bool} {va vb : Value} {ad : Str → Option Addr} {W : Wd} {M : Value → Value → Bool → Prop} (h : cmpI f a b = some c) (ra : Rp ad W a va) (rb : Rp ad W b vb) (k : ∀ i j t u, M (.int i t) (.int j u) (f i j)) : M va vb c :=
  bindE h fun i e1 h => mapE h fun j e2 e => e ▸ (show Rp ad W (.int i) va from intOf_inv e1 ▸ ra).intE fun t => (show Rp ad W (.int j) vb from intOf_inv e2 ▸ rb).intE fun u => k i j t u

theorem cmp_ok {op : CmpOp} {a b : TV} {c : Bool} {va vb : Value} {A : Around} {E P : Value → Shared → Prop} (hB : Base G K) (hA : A.units < 9000) (I : Inv K S0 Av g cells s) (ra : Rp K.ad (g.wd Av cells s.heap) a va) (rb : Rp K.ad (g.wd Av cells s.heap) b vb)
    (h : cmpTV cells op a b = some c) : PrimP K S0 Av g cells s cells (.bool c) P → wpAny (model K.prog K.w) A (compareOp op va vb) P E s := by
  cases op with
  | Eq => exact (eq_ok hA I ra rb h).1
  | NotEq => exact mapE h fun c' h e => e ▸ (eq_ok hA I ra rb h).2
  | In => exact (in_ok hB hA I ra rb h).1
  | NotIn => exact mapE h fun c' h e => e ▸ (in_ok hB hA I ra rb h).2
  | Is => exact (is_ok I ra rb h).1
  | IsNot => exact mapE h fun c' h e => e ▸ (is_ok I ra rb h).2
  | Lt => exact cmpI_inv (M := fun va vb c => PrimP K S0 Av g cells s cells (.bool c) P → wpAny (model K.prog K.w) A (compareOp .Lt va vb) P E s) h ra rb fun i j t u p => PySem.P.lt_int (p.here I (.bool _))
  | Gt => exact cmpI_inv (M := fun va vb c => PrimP K S0 Av g cells s cells (.bool c) P → wpAny (model K.prog K.w) A (compareOp .Gt va vb) P E s) h ra rb fun i j t u p => PySem.P.gt_int (p.here I (.bool _))
  | LtE => exact cmpI_inv (M := fun va vb c => PrimP K S0 Av g cells s cells (.bool c) P → wpAny (model K.prog K.w) A (compareOp .LtE va vb) P E s) h ra rb fun i j t u p => PySem.P.le_int (p.here I (.bool _))
  | GtE => exact cmpI_inv (M := fun va vb c => PrimP K S0 Av g cells s cells (.bool c) P → wpAny (model K.prog K.w) A (compareOp .GtE va vb) P E s) h ra rb fun i j t u p => PySem.P.ge_int (p.here I (.bool _))

theorem sameBut_keep {a : Addr} {h h' : Heap} (x : Heap.SameBut a h h') : ∀ b o, b ≠ a → h.get? b = some o → h'.get? b = some o := fun b o hb e => (x.2 b hb).trans e

theorem map_same {k : Str} {v : Value} {l : List (Str × Value)} (h : ∀ p ∈ l, p.1 ≠ k) : l.map (fun kv => if kv.1 = k then (kv.1, v) else kv) = l :=
  (List.map_congr_left fun p hp => if_neg (h p hp)).trans (List.map_id l)
theorem notMem {q : Str × Value} {l : List (Str × Value)} {k : Str} (h : q.1 = k) (hn : ((q :: l).map (·.1)).Nodup) : ∀ p ∈ l, p.1 ≠ k := fun p hp z => (List.nodup_cons.mp hn).1 (List.mem_map.mpr ⟨p, hp, z.trans h.symm⟩)
theorem stored_pos {q : Str × Value} {l : List (Str × Value)} {k : Str} {v : Value} (h : q.1 = k) (hn : ((q :: l).map (·.1)).Nodup) : stored (q :: l) k v = (q.1, v) :: l := by
  unfold stored
  rw [if_pos (by rw [List.any_cons, decide_eq_true h]; rfl), List.map_cons, if_pos h, map_same (notMem h hn)]
theorem stored_neg {q : Str × Value} {l : List (Str × Value)} {k : Str} {v : Value} (h : q.1 ≠ k) : stored (q :: l) k v = q :: stored l k v := by
  unfold stored
  rw [List.any_cons, decide_eq_false h, Bool.false_or, List.map_cons, if_neg h]
  by_cases c : (l.any fun kv => decide (kv.1 = k)) = true
  · rw [if_pos c, if_pos c]
  · rw [if_neg c, if_neg c]; rfl
theorem kvR_put {ad : Str → Option Addr} {W : Wd} {k : Str} {tv : TV} {v : Value} (hk : PyData.strOk k = true) (r : Rp ad W tv v) {kvs : List (Str × TV)} {l : List (Str × Value)} (h : KvR ad W kvs l) : (l.map (·.1)).Nodup → KvR ad W (putD kvs k tv) (stored l k v) := by
  refine F2.ind (motive := fun kvs l => (l.map (·.1)).Nodup → KvR ad W (putD kvs k tv) (stored l k v)) (fun _ => .cons ⟨⟨rfl, hk⟩, r⟩ .nil) (fun p q kvs l a b ih hn => ?_) h
  show F2 _ (if p.1 = k then _ else _) _
  by_cases hx : p.1 = k
  · rw [if_pos hx, stored_pos (a.1.1.trans hx) hn]; exact .cons ⟨a.1, r⟩ b
  · rw [if_neg hx, stored_neg fun z => hx (a.1.1.symm.trans z)]; exact .cons a (ih (List.nodup_cons.mp hn).2)
theorem kvR_del {ad : Str → Option Addr} {W : Wd} {k : Str} {kvs : List (Str × TV)} {l : List (Str × Value)} (h : KvR ad W kvs l) : (l.map (·.1)).Nodup → KvR ad W (delD kvs k) (without l k) := by
  refine F2.ind (motive := fun kvs l => (l.map (·.1)).Nodup → KvR ad W (delD kvs k) (without l k)) (fun _ => .nil) (fun p q kvs l a b ih hn => ?_) h
  show F2 _ (if p.1 = k then _ else _) (List.filter _ _)
  by_cases hx : p.1 = k
  · have e := a.1.1.trans hx
    rw [if_pos hx, List.filter_cons_of_neg (by simp [e]), List.filter_eq_self.mpr fun z hz => by simpa using notMem e hn z hz]; exact b
  · rw [if_neg hx, List.filter_cons_of_pos (by simpa using fun z => hx (a.1.1.symm.trans z))]; exact .cons a (ih (List.nodup_cons.mp hn).2)

theorem dictOf_nodup {h : Heap} {a : Addr} {l : List (Str × Value)} (H : h.DictOf (strKind K.prog K.w) a l) : (l.map (·.1)).Nodup := by
  obtain ⟨_, _, _, _, _, _, _, _, hn⟩ := H
  exact hn

/-- what a step that changes one cell hands on -/
theorem PrimP.cell {n : Nat} {c c' : Cell} {a : Addr} {tv : TV} {v : Value} {P : Value → Shared → Prop} {h' : Heap} {tk : Nat} {o' : Obj} (p : PrimP K S0 Av g cells s (cells.set n c') tv P) (I : Inv K S0 Av g cells s) (hc : cells[n]? = some c) (ha : g.am[n]? = some a) (hd : isFix c = false)
    (hk : ∀ b o, b ≠ a → s.heap.get? b = some o → h'.get? b = some o) (e : h'.get? a = some o') (ht : s.toks ≤ tk)
    (hr : (g.wd Av cells s.heap).Le (g.wd Av (cells.set n c') h') → CellR K (g.wd Av (cells.set n c') h') h' a c') (r : (g.wd Av cells s.heap).Le (g.wd Av (cells.set n c') h') → Rp K.ad (g.wd Av (cells.set n c') h') tv v) : P v { s with heap := h', toks := tk } :=
  have i := I.setCell hc ha hd hk e ht hr
  p _ _ _ i.1 i.2 (r i.2.le)

theorem setitem_ok {o k x : TV} {vo vk vx : Value} {A : Around} {E P : Value → Shared → Prop} {cells' : List Cell} (I : Inv K S0 Av g cells s) (ro : Rp K.ad (g.wd Av cells s.heap) o vo) (rk : Rp K.ad (g.wd Av cells s.heap) k vk)
    (rx : Rp K.ad (g.wd Av cells s.heap) x vx) (h : setItemTV cells o k x = some cells') (p : PrimP K S0 Av g cells s cells' .none P) : wpAny (model K.prog K.w) A (setItem vo vk vx) (fun _ => P .none) E s :=
  bindE h fun n en h => bindE h fun k hk h => bindE h fun kvs hc h => ifE h fun hl e => (key_inv I rk hk).elim fun t y => y.1 ▸ (show Rp _ _ (.ref n) vo from refOf_inv en ▸ ro).refE fun a ha =>
    have hc := cellDo_inv hc
    (I.dictAt hc ha).elim fun l z => wpAny_setItem_pairs (strKind_is ..) z.1 (fun h' hd' hs => (Heap.dictOf_iff.mp hd').elim fun o' q =>
      (e ▸ p).cell I hc ha rfl (sameBut_keep hs) q.1 (Nat.le_succ _) (fun le => ⟨_, o', q.1, q.2, kvR_put y.2 (rx.mono le) (KvR.mono le z.2) (dictOf_nodup z.1)⟩) fun _ => .none) (z.2.length ▸ lim_le hl)

theorem delitem_ok {o k : TV} {vo vk : Value} {A : Around} {E P : Value → Shared → Prop} {cells' : List Cell} (I : Inv K S0 Av g cells s) (ro : Rp K.ad (g.wd Av cells s.heap) o vo) (rk : Rp K.ad (g.wd Av cells s.heap) k vk)
    (h : delItemTV cells o k = some cells') (p : PrimP K S0 Av g cells s cells' .none P) : wpAny (model K.prog K.w) A (delItem vo vk) (fun _ => P .none) E s :=
  bindE h fun n en h => bindE h fun k hk h => bindE h fun kvs hc h => ifE h fun hl e => (key_inv I rk hk).elim fun t y => y.1 ▸ (show Rp _ _ (.ref n) vo from refOf_inv en ▸ ro).refE fun a ha =>
    have hc := cellDo_inv hc
    (I.dictAt hc ha).elim fun l z => wpAny_delItem_slot z.1.typeIs (by decide) F.slot_dict_delitem (call_meetsIn F.slot_dict_delitem z.1.typeIs F.entry_dict_delitem (F.args_dict_delitem_2 _ _) (meets_dict_delitem_pairs (strKind K.prog K.w) _ (strKind_is ..))
      ⟨l, z.1, z.2.length ▸ lim_le hl.2, (lookD_isSome k z.2).trans hl.1, fun h' hd' hs => (Heap.dictOf_iff.mp hd').elim fun o' q =>
        (e ▸ p).cell I hc ha rfl (sameBut_keep hs) q.1 (Nat.le_succ _) (fun le => ⟨_, o', q.1, q.2, kvR_del (KvR.mono le z.2) (dictOf_nodup z.1)⟩) fun _ => .none⟩)
end
end

section
open PySem PySem.W PyProof.Rows

section
variable {G : TG} {K : GK} {S0 : Reg} {Av F : Addr → Prop} {env : Env} {sc : Scope} {g g₁ : Gh} {es es₁ : ES} {s s₁ : Shared} {cells : List Cell}

theorem isL_update {h : Heap} {l : Addr} {vs us : List Value} {n : Nat} (e : h.get? l = some (listObj vs n)) (f : Array Value → Array Value) (hf : f vs.toArray = us.toArray) : ∃ m, (h.update l (Obj.mapSeq f)).get? l = some (listObj us m) := by
  have := IsL.update (items := vs.toArray) (n := n) e f
  rw [hf] at this
  exact ⟨_, this⟩
theorem keep_update {h : Heap} {l : Addr} {f : Obj → Obj} : ∀ b o, b ≠ l → h.get? b = some o → (h.update l f).get? b = some o := fun _ _ hb e => (Heap.get?_update_other h f (Ne.symm hb)).trans e

theorem eraseLast {α : Type} (xs : List α) : (xs.toArray.eraseIdxIfInBounds (xs.toArray.size - 1)) = xs.dropLast.toArray := by
  apply Array.ext'
  rw [Array.toList_eraseIdxIfInBounds, List.size_toArray, List.eraseIdx_length_sub_one]

theorem RpL.dropLast {ad : Str → Option Addr} {W : Wd} {xs : List TV} {vs : List Value} (h : RpL ad W xs vs) : RpL ad W xs.dropLast vs.dropLast := by
  rw [List.dropLast_eq_take, List.dropLast_eq_take, h.length]; exact h.take _

theorem SetR_of {xs : List Str} {a : Addr} {h : Heap} {f : Str → Bool} {n : Nat} (hS : h.SetOf (strKind K.prog K.w) a f n) (hf : f = fun k => xs.contains k) (hn : n = xs.length) : ∃ o, h.get? a = some o ∧ SetR K xs o :=
  hS.imp fun o hS => hS.elim fun es hS => hS.elim fun ep hS => hS.elim fun t z => ⟨z.1, es, ep, t, by rw [hf, hn] at z; exact z.2⟩

theorem scan_lt {n : Nat} (h : n ≤ 1000) : n + 1 < scanBound := Nat.lt_of_le_of_lt (Nat.succ_le_succ h) (by decide)

theorem rpl0 {ad : Str → Option Addr} {W : Wd} {vs : List Value} (h : RpL ad W [] vs) : vs = [] := h
@[elab_as_elim] theorem RpL.one1 {ad : Str → Option Addr} {W : Wd} {x : TV} {vs : List Value} {m : List Value → Prop} (h : RpL ad W [x] vs) (k : ∀ v, Rp ad W x v → m [v]) : m vs := h.consE fun v _ r q => q.nilE (k v r)
@[elab_as_elim] theorem RpL.two {ad : Str → Option Addr} {W : Wd} {x y : TV} {vs : List Value} {m : List Value → Prop} (h : RpL ad W [x, y] vs) (k : ∀ v u, Rp ad W x v → Rp ad W y u → m [v, u]) : m vs := h.consE fun v _ r q => q.one1 fun u r' => k v u r r'
@[elab_as_elim] theorem RpL.three {ad : Str → Option Addr} {W : Wd} {x y z : TV} {vs : List Value} {m : List Value → Prop} (h : RpL ad W [x, y, z] vs) (k : ∀ v u w, Rp ad W x v → Rp ad W y u → Rp ad W z w → m [v, u, w]) : m vs := h.consE fun v _ r q => q.two fun u w r1 r2 => k v u w r r1 r2
theorem rpl1 {ad : Str → Option Addr} {W : Wd} {x : TV} {vs : List Value} (h : RpL ad W [x] vs) : ∃ v, vs = [v] ∧ Rp ad W x v := h.one1 fun v r => ⟨v, rfl, r⟩
theorem Inv.listAt (I : Inv K S0 Av g cells s) {n : Nat} {a : Addr} {xs : List TV} (hc : cells[n]? = some (.list xs)) (ha : g.am[n]? = some a) : ∃ us m, s.heap.get? a = some (listObj us m) ∧ RpL K.ad (g.wd Av cells s.heap) xs us := I.cell n _ a hc ha
theorem size_le {α β : Type} {xs : List α} {vs : List β} (e : vs.length = xs.length) (h : xs.length ≤ lim) : vs.toArray.size ≤ sizeLine := by rw [List.size_toArray, e]; exact lim_le h

/-- the strs with one more -/
noncomputable def insS (xs : List Str) (k : Str) : List Str := if xs.contains k then xs else xs ++ [k]
theorem ins_contains (xs : List Str) (k : Str) : (fun y => xs.contains y || decide (y = k)) = fun y => (insS xs k).contains y := funext fun y => by
  unfold insS
  rw [Bool.eq_iff_iff, Bool.or_eq_true, decide_eq_true_iff]
  by_cases h : xs.contains k = true
  · rw [if_pos h]; exact ⟨fun z => z.elim id fun e => e ▸ h, .inl⟩
  · rw [if_neg h, List.contains_iff_mem, List.contains_iff_mem, List.mem_append, List.mem_singleton]
theorem ins_length (xs : List Str) (k : Str) : (if xs.contains k = true then xs.length else xs.length + 1) = (insS xs k).length := by
  unfold insS
  by_cases h : xs.contains k = true
  · rw [if_pos h, if_pos h]
  · rw [if_neg h, if_neg h, List.length_append]; rfl
theorem ins_mem {xs : List Str} {k x : Str} (h : x ∈ insS xs k) : x ∈ xs ∨ x = k := ite2 (f := fun l => x ∈ l → x ∈ xs ∨ x = k) (fun _ => .inl) (fun _ => mem_app) h

/-- a method that changes a list's cell -/
theorem list_meth {n : Nat} {a : Addr} {xs xs' : List TV} {us us' : List Value} {m : Nat} {tv : TV} {v : Value} {P : Value → Shared → Prop} {f : Array Value → Array Value} (I : Inv K S0 Av g cells s) (hc : cells[n]? = some (.list xs)) (ha : g.am[n]? = some a) (ho : s.heap.get? a = some (listObj us m))
    (hf : f us.toArray = us'.toArray) (q : ∀ {W : Wd}, (g.wd Av cells s.heap).Le W → RpL K.ad W xs' us') (r : Rp K.ad (g.wd Av cells s.heap) tv v) (p : PrimP K S0 Av g cells s (cells.set n (.list xs')) tv P) : P v { s with heap := s.heap.update a (Obj.mapSeq f) } :=
  (isL_update ho f hf).elim fun _ e => p.cell (tk := s.toks) I hc ha rfl keep_update e (Nat.le_refl _) (fun le => ⟨_, _, e, q le⟩) fun le => r.mono le

theorem cellMeth_ok {id : String} {n : Nat} {a : Addr} {args : List TV} {vs : List Value} {tv : TV} {cells' : List Cell} {A : Around} {E P : Value → Shared → Prop} (hB : Base G K) (I : Inv K S0 Av g cells s) (ha : g.am[n]? = some a)
    (ra : RpL K.ad (g.wd Av cells s.heap) args vs) (h : CellM cells id n args tv cells') (p : PrimP K S0 Av g cells s cells' tv P) : wpAny (model K.prog K.w) A (call (.builtin id) (.ref a :: vs)) P E s := by
  induction h with
  | append hc hl =>
    exact (I.listAt hc ha).elim fun us z => z.elim fun m z => ra.one1 fun u rv => call_meets PySem.F.slot_list_append ⟨_, z.1, rfl⟩ PySem.F.entry_list_append (PySem.F.args_list_append_2 _ _) (list_append a us.toArray m _ (size_le z.2.length hl))
      ⟨z.1, list_meth (f := fun x => x.push u) (us' := us ++ [u]) I hc ha z.1 (List.push_toArray us u) (fun le => (RpL.mono le z.2).append (.one (rv.mono le))) .none p⟩
  | extend hc hl =>
    refine (I.listAt hc ha).elim fun us z => z.elim fun m z => ra.one1 fun u rv => rv.listE' fun b ws k eb qb => ?_
    have hs : us.length + ws.length ≤ lim := by rw [z.2.length, qb.length]; exact hl
    refine call_meets PySem.F.slot_list_extend ⟨_, z.1, rfl⟩ PySem.F.entry_list_extend (PySem.F.args_list_extend_2 _ _) (AutoSeq1.list_extend_list_list_0 a us.toArray m b ws.toArray k ?_ (lim_le (Nat.le_trans (Nat.le_add_right _ _) hs)) (Nat.le_succ_of_le (lim_le hs)))
      ⟨z.1, eb.1, list_meth (f := fun x => x ++ ws.toArray) (us' := us ++ ws) I hc ha z.1 (List.append_toArray us ws) (fun le => (RpL.mono le z.2).append (RpL.mono le qb)) .none p⟩
    have hb : Builtin.List.listTooLong (us.toArray.size + ws.toArray.size) = false := decide_eq_false (Nat.not_lt.mpr (Nat.le_trans hs (by decide)))
    have hne : b ≠ a := fun y => eb.2.2 ⟨_, _, y ▸ ha, hc, rfl⟩
    rw [hb]; simp
  | clear hc hl =>
    exact (I.listAt hc ha).elim fun us z => z.elim fun m z => ra.nilE (call_meets PySem.F.slot_list_clear ⟨_, z.1, rfl⟩ PySem.F.entry_list_clear (PySem.F.args_list_clear_1 _) (AutoSeq1.list_clear_list_0 a us.toArray m (size_le z.2.length hl))
      ⟨z.1, list_meth (f := fun _ => #[]) (us' := []) I hc ha z.1 rfl (fun _ => .nil) .none p⟩)
  | pop hc hl hv =>
    exact (I.listAt hc ha).elim fun us z => z.elim fun m z => (F2.get z.2 (List.getLast?_eq_getElem?.symm.trans hv)).elim fun y r => ra.nilE (call_meets PySem.F.slot_list_pop ⟨_, z.1, rfl⟩ PySem.F.entry_list_pop (PySem.F.args_list_pop_1 _)
      (PySem.MeetsSeq.list_pop_last a us.toArray m y (by rw [List.size_toArray, z.2.length]; exact List.getElem?_toArray.trans r.1) (size_le z.2.length hl))
      ⟨z.1, list_meth (f := fun x => x.eraseIdxIfInBounds (us.toArray.size - 1)) (us' := us.dropLast) I hc ha z.1 (eraseLast us) (fun le => RpL.dropLast (RpL.mono le z.2)) r.2 p⟩)
  | get hc hk =>
    exact (I.dictAt hc ha).elim fun l z => ra.one1 fun u rv => (key_inv I rv hk).elim fun t y => y.1 ▸ call_meetsIn PySem.F.slot_dict_get z.1.typeIs PySem.F.entry_dict_get (PySem.F.args_dict_get_2 _ _) (meets_dict_get (strKind K.prog K.w) a (strKind_is ..) (I.notMods hB ha))
      ⟨_, z.1.mapOf, (lookD_valueAt _ z.2).elim (fun q => q.elim fun tv q => q.elim fun v q => by rw [q.2.1]; rw [q.1] at p; exact p.tok I (Nat.le_succ _) q.2.2) fun q => by rw [q.2]; rw [q.1] at p; exact p.tok I (Nat.le_succ _) .none⟩
  | values hc =>
    exact (I.dictAt hc ha).elim fun l z => ra.nilE (call_meetsIn PySem.F.slot_dict_values z.1.typeIs PySem.F.entry_dict_values (PySem.F.args_dict_values_1 _) (meets_dict_values (strKind K.prog K.w) a (I.notMods hB ha))
      ⟨⟨l, z.1⟩, p.new I (Nat.le_refl _) rfl fun W le hV => .vals (le.am ha) hV rfl rfl⟩)
  | @add n xs v k hc hk hl =>
    exact (I.cell n _ a hc ha).elim fun o hok => ra.one1 fun u rv => (key_inv I rv hk).elim fun t y => y.1 ▸ call_set_add (knd := strKind K.prog K.w) (strKind_is ..) rfl (I.setAt hc ha) (scan_lt hl) fun h' hs hS' => (SetR_of hS' (ins_contains xs k) (ins_length xs k)).elim fun o' z =>
      p.cell I hc ha rfl (sameBut_keep hs) z.1 (Nat.le_succ _) (fun le => ⟨o', z.1, z.2, fun x hx => (ins_mem hx).elim (hok.2.2 x) fun e => e ▸ y.2⟩) fun _ => .none
end
end

section
open PySem PySem.W PyProof.Rows

theorem strLe_ok (a b : Str) : strLe a b = true ↔ a.cps.toList ≤ b.cps.toList := by
  unfold strLe
  rw [Bool.not_eq_true', decide_eq_false_iff_not]
  exact Iff.rfl
theorem strLe_trans (a b c : Str) (h : strLe a b = true) (h' : strLe b c = true) : strLe a c = true := by
  rw [strLe_ok] at *
  exact List.le_trans h h'
theorem strLe_total (a b : Str) : (strLe a b || strLe b a) = true := by
  rw [Bool.or_eq_true, strLe_ok, strLe_ok]
  exact List.le_total _ _
theorem strLe_antisymm (a b : Str) (h : strLe a b = true) (h' : strLe b a = true) : a = b := by
  rw [strLe_ok] at *
  have := List.le_antisymm h h'
  cases a; cases b
  simp only [Str.mk.injEq]
  exact Array.ext' this
theorem rising_pairwise (l : List Str) (p : Str) (h : risingS p l = true) : (p :: l).Pairwise fun a b => strLe a b = true := by
  induction l generalizing p with
  | nil => exact .cons (fun _ z => nomatch z) .nil
  | cons x r ih =>
    have h' : (!Spec.ltCps x.cps.toList p.cps.toList && risingS x r) = true := h
    rw [Bool.and_eq_true, ltCps_eq] at h'
    have ih := ih x h'.2
    have hpx : strLe p x = true := h'.1
    exact .cons (fun y hy => (List.mem_cons.mp hy).elim (fun e => e ▸ hpx) fun hy => strLe_trans _ _ _ hpx ((List.pairwise_cons.mp ih).1 y hy)) ih
theorem sorted_unique {ss ss' : List Str} (hp : ss'.Perm ss) (hs : sortedS ss' = true) : ss' = sortS ss := by
  have h1 : ss'.Pairwise fun a b => strLe a b = true := by
    cases ss' with
    | nil => exact .nil
    | cons x r => exact rising_pairwise r x hs
  have h2 : (sortS ss).Pairwise fun a b => strLe a b = true := List.pairwise_mergeSort strLe_trans strLe_total ss
  exact List.Perm.eq_of_pairwise (le := fun a b => strLe a b = true) (fun a b _ _ => strLe_antisymm a b) h1 h2 (hp.trans (List.mergeSort_perm ss strLe).symm)

theorem strList_eq {xs : List TV} {ss : List Str} (h : strList xs = some ss) : xs = ss.map .str := by
  induction xs generalizing ss with
  | nil => exact someE h rfl
  | cons x xs ih => exact bindE h fun s e1 h => mapE h fun l e2 e => by rw [strOf_inv e1, ih e2, ← e]; rfl
theorem intList_eq {xs : List TV} {ss : List Int} (h : intList xs = some ss) : xs = ss.map .int := by
  induction xs generalizing ss with
  | nil => exact someE h rfl
  | cons x xs ih => exact bindE h fun s e1 h => mapE h fun l e2 e => by rw [intOf_inv e1, ih e2, ← e]; rfl

theorem strsAre_rp {ad : Str → Option Addr} {W : Wd} {vs : List Value} {ss : List Str} (r : StrsAre vs ss) (h : ∀ v ∈ vs, ∃ s t, v = .str s t ∧ W.T t = some s) : RpL ad W (ss.map .str) vs := by
  induction r with
  | nil => exact .nil
  | cons y t r ih => exact .cons ((h _ (.head _)).elim fun s z => z.elim fun u z => ⟨t, rfl, by rw [(Value.str.inj z.1).1, (Value.str.inj z.1).2]; exact z.2⟩) (ih fun v hv => h v (.tail _ hv))

section
variable {G : TG} {K : GK} {S0 : Reg} {Av F : Addr → Prop} {env : Env} {sc : Scope} {g g₁ : Gh} {es es₁ : ES} {s s₁ : Shared} {cells : List Cell}

/-- more heap, other tokens: all as it was -/
theorem PrimP.keep {cells : List Cell} {tv : TV} {v : Value} {P : Value → Shared → Prop} {h' : Heap} {tk : Nat} (h : PrimP K S0 Av g cells s cells tv P) (I : Inv K S0 Av g cells s) (hk : ∀ b o, s.heap.get? b = some o → h'.get? b = some o) (ht : s.toks ≤ tk)
    (r : (g.wd Av cells s.heap).Le (g.wd Av cells h') → Rp K.ad (g.wd Av cells h') tv v) : P v { s with heap := h', toks := tk } := by
  exact h _ _ _ (I.grow hk ht).1 (I.grow hk ht).2 (r (I.grow hk ht).2.le)

theorem sum_ok {l : Addr} {vs : List Value} {ns : List Int} {n : Nat} {A : Around} {E P : Value → Shared → Prop} (hh : A.handled = none) (I : Inv K S0 Av g cells s) (hl : s.heap.get? l = some (listObj vs n)) (hi : IntsAre vs ns)
    (p : PrimP K S0 Av g cells s cells (.int ns.sum) P) : wpAny (model K.prog K.w) A (call (.builtin "sum") [.ref l]) P E s := by
  obtain ⟨xs, hx⟩ := hi.allInts.items
  have hL : s.heap.IsList l (intItems xs) := hx ▸ IsList.of hl
  refine wpAny_with_toks (Nat.le_refl _) (wpAny_mono (sum_intListG hh hL (Q := fun v s' => s.toks ≤ s'.toks → P v s') fun h' tk t' hk ht => ?_) (fun _ _ x => x) fun _ _ x _ => x)
  have e : preSum (numAt xs) xs.size = ns.sum := by
    have := nums_intItems xs
    rw [← hx, show vs.toArray.toList = vs from rfl, hi.numsOf] at this
    rw [preSum_eq, List.take_of_length_le (by simp), this]
  rw [e]
  exact p.keep I hk ht fun _ => .int _ _

theorem max?_eq {ns : List Int} {M : Int} (h1 : M ∈ ns) (h2 : ∀ a ∈ ns, a ≤ M) : ns.max? = some M := List.max?_eq_some_iff.mpr ⟨h1, h2⟩
theorem mem_get {ns : List Int} {a : Int} (h : a ∈ ns) : ∃ j, j < ns.length ∧ ns.getD j 0 = a := (List.mem_iff_getElem.mp h).imp fun j z => z.elim fun hj e => ⟨hj, by rw [List.getD_eq_getElem?_getD, List.getElem?_eq_getElem hj, e]; rfl⟩

theorem max_ok {l : Addr} {vs : List Value} {ns : List Int} {n : Nat} {M : Int} {A : Around} {E P : Value → Shared → Prop} (hh : A.handled = none) (I : Inv K S0 Av g cells s) (hl : s.heap.get? l = some (listObj vs n)) (hi : IntsAre vs ns)
    (hM : ns.max? = some M) (p : PrimP K S0 Av g cells s cells (.int M) P) : wpAny (model K.prog K.w) A (call (.builtin "max") [.ref l]) P E s := by
  obtain ⟨xs, hx⟩ := hi.allInts.items
  have hL : s.heap.IsList l (intItems xs) := hx ▸ IsList.of hl
  have en : xs.toList.map (·.1) = ns := by
    have := nums_intItems xs
    rw [← hx, show vs.toArray.toList = vs from rfl, hi.numsOf] at this
    exact this.symm
  have hsz : 0 < xs.size := by
    have : ns ≠ [] := fun z => by subst z; cases hM
    have : 0 < ns.length := List.length_pos_iff.mpr this
    rw [← en] at this
    simpa using this
  refine wpAny_with_toks (Nat.le_refl _) (wpAny_mono (max_intList hh hL hsz (Q := fun v s' => s.toks ≤ s'.toks → P v s') fun v h' tk hv hk ht => ?_) (fun _ _ x => x) fun _ _ x _ => x)
  obtain ⟨t, rfl⟩ := intItems_at hv
  obtain ⟨h1, h2⟩ := argBest_gt (numAt xs) (xs.size - 1)
  have hb : argBest (fun i j => decide (numAt xs i > numAt xs j)) (xs.size - 1) < xs.size := Nat.lt_of_le_of_lt h1 (Nat.sub_one_lt_of_lt hsz)
  have e : numAt xs (argBest (fun i j => decide (numAt xs i > numAt xs j)) (xs.size - 1)) = M := by
    have q : ns.max? = some (numAt xs (argBest (fun i j => decide (numAt xs i > numAt xs j)) (xs.size - 1))) := by
      refine max?_eq ?_ fun a ha => ?_
      · rw [numAt_eq, en, List.getD_eq_getElem?_getD]
        have : argBest (fun i j => decide (numAt xs i > numAt xs j)) (xs.size - 1) < ns.length := by rw [← en, List.length_map, Array.length_toList]; exact hb
        rw [List.getElem?_eq_getElem this]
        exact List.getElem_mem _
      · exact (mem_get ha).elim fun j z => by
          have hj := z.1
          rw [← z.2]
          rw [← en] at hj ⊢
          rw [← numAt_eq]
          rw [List.length_map, Array.length_toList] at hj
          exact h2 j (Nat.le_sub_one_of_lt hj)
    rw [hM] at q
    exact (Option.some.inj q).symm
  rw [e]
  exact p.keep I hk ht fun _ => .int _ _

theorem sorted_ok {a : Addr} {o : Obj} {T : String} {vs : List Value} {ss : List Str} {n : Nat} {A : Around} {E P : Value → Shared → Prop} (I : Inv K S0 Av g cells s) (hT : T = "list" ∨ T = "tuple") (ho : s.heap.get? a = some o) (hc : o.cls = .type T) (hd : o.data = .seq vs.toArray n)
    (h64 : ss.length < 64) (r : RpL K.ad (g.wd Av cells s.heap) (ss.map .str) vs) (p : PrimP K S0 Av g cells s cells (.list ((sortS ss).map .str)) P) : wpAny (model K.prog K.w) A (call (.builtin "sorted") [.ref a]) P E s := by
  have hS := r.strs
  have hlen : vs.length = ss.length := r.length.trans (List.length_map _)
  refine Calls.call_function_entry kind_sorted plain_sorted entry_sorted (args_sorted1 _) ?_
  unfold Builtin.«sorted»
  refine wpAny_bind (m := checkCount "sorted" 1 1 _) (wpAny_pure ?_)
  refine wpAny_bind (wpAny_collect_seq a hT ho hc hd (fun h' hk => ?_) (by rw [List.size_toArray, hlen]; exact Nat.le_trans (Nat.le_of_lt h64) (by decide)))
  refine wpAny_bind (wpAny_newList ?_)
  have hoL : (h'.push (seqObj "list" vs.toArray 0)).get? h'.objs.size = some (seqObj "list" vs.toArray 0) := Heap.get?_push_size _ rfl
  show wpAny _ _ _ _ _ { s with heap := h'.push (seqObj "list" vs.toArray 0) }
  refine wpAny_bind (wpAny_holding (wpAny_call_entry slot_list_sort ⟨_, hoL, rfl⟩ entry_list_sort (list_sort_treeK strKind_oneLt hoL hS.1.keysOf (fun v₁ v₂ rest e => keyKind_strs (by rw [← e]; exact hS.1)) (hlen ▸ h64) fun st' hp hs => ⟨_, rfl, ?_⟩) (args_list_sort _)))
  refine (sorted_out_str hS.1 hp hs).elim fun ss' z => wpAny_pure ⟨_, rfl, ?_⟩
  refine (sortedHeap_at (h := h'.push (seqObj "list" vs.toArray 0)) (out := (arrOf st').map (·.2)) hoL).elim fun e he => ?_
  have hk' : ∀ b o, s.heap.get? b = some o → (sortedHeap (h'.push (seqObj "list" vs.toArray 0)) h'.objs.size vs ((arrOf st').map (·.2))).get? b = some o := fun b o q => by
    have hlt : b < h'.objs.size := Heap.lt_size (hk b o q)
    rw [sortedHeap_old (Nat.ne_of_lt hlt) (by rw [size_push']; exact Nat.lt_succ_of_lt hlt), Heap.get?_push_ne _ _ _ (Nat.ne_of_lt hlt)]
    exact hk b o q
  have hfresh : s.heap.get? h'.objs.size = none := Option.eq_none_iff_forall_ne_some.mpr fun o q => Nat.lt_irrefl _ (Heap.lt_size (hk _ _ q))
  refine p.keep I hk' (Nat.le_refl _) fun le => .list (vs := ((arrOf st').map (·.2)).toList) (n := e) (by rw [listObj, Array.toArray_toList]; exact I.newV hfresh he) ?_
  rw [← sorted_unique z.2.1 z.2.2]
  refine strsAre_rp z.1 fun v hm => ?_
  have hp' := (Array.perm_iff_toList_perm.mp hp).map (·.2)
  have e2 : (pairsOf vs).toList.map (·.2) = vs := by
    unfold pairsOf
    rw [Array.toList_zip]
    exact List.map_snd_zip (by simp)
  rw [e2] at hp'
  rw [Array.toList_map] at hm
  exact (hS.2 v (hp'.mem_iff.mp hm)).imp fun x => Exists.imp fun t => And.imp_right (le.t _ _)
end
end

section
open PySem PySem.W PyProof.Rows

section
variable {G : TG} {K : GK} {S0 : Reg} {Av F : Addr → Prop} {env : Env} {sc : Scope} {g g₁ : Gh} {es es₁ : ES} {s s₁ : Shared} {cells : List Cell}

/-- many new strs -/
theorem Inv.strs (xs : List Str) {g : Gh} {s : Shared} (I : Inv K S0 Av g cells s) (h : ∀ x ∈ xs, PyData.strOk x = true) :
    ∃ g', Inv K S0 Av g' cells { s with toks := s.toks + xs.length } ∧ Kp Av NoF g cells s g' cells { s with toks := s.toks + xs.length } ∧ RpL K.ad (g'.wd Av cells s.heap) (xs.map .str) (strsFrom s.toks xs) := by
  induction xs generalizing g s with
  | nil => exact ⟨g, I, .refl, .nil⟩
  | cons x xs ih =>
    have J := I.str (h' := s.heap) (Nat.le_refl _) (Nat.lt_succ_self s.toks) (h x (.head _)) (fun _ _ e => e)
    have e : (s.toks + 1) + xs.length = s.toks + (x :: xs).length := by rw [List.length_cons, Nat.add_assoc, Nat.add_comm 1]
    refine (ih J.1 fun y hy => h y (.tail _ hy)).imp fun g' z => ?_
    dsimp only at z
    rw [e] at z
    exact ⟨z.1, J.2.trans z.2.1, .cons ((strT g s.toks x Av cells s.heap K.ad).mono z.2.1.le) z.2.2⟩

theorem split_ok {x y : Str} {t u : Tok} {A : Around} {E P : Value → Shared → Prop} (I : Inv K S0 Av g cells s) (hx : (g.wd Av cells s.heap).T t = some x) (hy : y.length = 1) (hok : ∀ z ∈ Txt.split x y, PyData.strOk z = true)
    (hl : x.length ≤ 1000) (hl2 : (Txt.split x y).length ≤ lim) (p : PrimP K S0 Av g cells s cells (.list ((Txt.split x y).map .str)) P) : wpAny (model K.prog K.w) A (call (.builtin "str.split") [.str x t, .str y u]) P E s := by
  have hy' : (y.length == 0) = false := by rw [hy]; rfl
  have one : Txt.split x y = [x] → P (.ref s.heap.objs.size) { s with heap := s.heap.push (listObj [.str x t] 0) } := fun e => by
    rw [e] at p
    exact p.new I (o := listObj [.str x t] 0) (Nat.le_refl s.toks) rfl fun W le hV => .list hV (.one (.str (le.t _ _ hx)))
  cases h1 : (decide (x.length < y.length) || decide (PySem.Builtin.Str.strKind x < PySem.Builtin.Str.strKind y))
  · cases hf : (PySem.Builtin.Str.occurrences x y 0 x.length (x.length + 1)).isEmpty
    · have e : Txt.split x y = PySem.Builtin.Str.partsBetween x (PySem.Builtin.Str.occurrences x y 0 x.length (x.length + 1)) y.length := (if_neg (ne_true_of_eq_false h1)).trans (if_neg (ne_true_of_eq_false hf))
      rw [e] at hok hl2 p
      refine call_meets PySem.F.slot_str_split (typeIs_str _ _ _) PySem.F.entry_str_split (PySem.F.args_str_split_2 _ _) (meets_str_split_sep x y t u h1 hy' hf (Nat.le_trans hl (by decide)) (lim_le hl2)) ?_
      exact (I.strs _ hok).elim fun g' z => PrimP.new (P := P) (fun v g' s' a b c => p v g' s' a (z.2.1.trans b) c) z.1 (o := listObj (strsFrom s.toks _) 0) (Nat.le_refl _) rfl fun W le hV => .list hV (RpL.mono le z.2.2)
    · exact call_meets PySem.F.slot_str_split (typeIs_str _ _ _) PySem.F.entry_str_split (PySem.F.args_str_split_2 _ _) (meets_str_split_not_found x y t u h1 hy' hf)
        (one ((if_neg (ne_true_of_eq_false h1)).trans (if_pos hf)))
  · exact call_meets PySem.F.slot_str_split (typeIs_str _ _ _) PySem.F.entry_str_split (PySem.F.args_str_split_2 _ _) (meets_str_split_cannot_occur x y t u h1) (one (if_pos h1))

theorem join_ok {l : Addr} {vs : List Value} {n : Nat} {x : Str} {ss : List Str} {t : Tok} {A : Around} {E P : Value → Shared → Prop} (I : Inv K S0 Av g cells s) (hl : s.heap.get? l = some (listObj vs n)) (r : RpL K.ad (g.wd Av cells s.heap) (ss.map .str) vs)
    (h1 : ss.length ≤ 1000) (h2 : x.length ≤ 64) (h3 : (ss.map (·.length)).sum ≤ 4096) (hok : PyData.strOk (Txt.join x ss) = true) (hx : (g.wd Av cells s.heap).T t = some x)
    (p : PrimP K S0 Av g cells s cells (.str (Txt.join x ss)) P) : wpAny (model K.prog K.w) A (call (.builtin "str.join") [.str x t, .ref l]) P E s := by
  have hS := r.strs.1
  have hok' := joinOk_of (sep := x) (ys := ss) (Nat.le_trans (Nat.add_le_add h3 (Nat.mul_le_mul h1 h2)) (by decide))
  unfold JoinOk at hok'
  rw [Bool.not_eq_true'] at hok'
  refine (strsAre_values hS).elim fun l' z => ?_
  obtain ⟨hv', ht⟩ := z
  subst ht hv'
  refine call_meets PySem.F.slot_str_join (typeIs_str _ _ _) PySem.F.entry_str_join (PySem.F.args_str_join_2 _ _) (meets_str_join_list x t l l' hok') ⟨IsList.of hl, ?_⟩
  have other : joinMade x l' = .str (Txt.join x (l'.map (·.1))) → (joinMade x l').post (fun v s' => wants P E (.ok (.ret v)) s') s := fun e => by
    rw [e]
    exact ⟨joinFit_length hok', p.str I hok⟩
  cases l' with
  | nil => exact other rfl
  | cons q l' => cases l' with
    | nil =>
      have e : Txt.join x ([q].map (·.1)) = q.1 := by first | rfl | simp [Txt.join, PySem.Builtin.Str.glued]
      rw [e] at p
      exact (rpl1 r).elim fun v z => p.here I (by rw [show Value.str q.1 q.2 = v from (List.cons.inj z.1).1]; exact z.2)
    | cons q' l' => exact other rfl
end
end

section
open PySem PySem.W PyProof.Rows PySem.Builtin.Str PySem.Builtin

theorem sub_ke_le : isSubtype (.type "KeyError") (.type "LookupError") = pure true := by rw [isSubtype_type]; kernel_rfl

section
variable {prog : Program} {w : World} {A : Around} {E : Value → Shared → Prop} {s : Shared} {d : Addr} {f : Int → Option Value}

theorem getItem_missing {Q : Value → Shared → Prop} {k : Int} {t : Tok} (hh : A.handled = none) (hd : (d == sysModules) = false) (hm : s.heap.MapOf (intKind prog w) d f) (hf : f k = none)
    (h : ∀ h' e, Heap.NewExc s.heap h' e "KeyError" → E (.ref e) { s with heap := h', toks := s.toks + 1 }) : wpAny (model prog w) A (getItem (.ref d) (.int k t)) Q E s := by
  unfold getItem
  try with_reducible refine wpAny_holding ?_
  refine wpAny_bind (wpAny_sequenceKey hm.typeIs (by decide) ?_)
  refine wpAny_bind (wpAny_callSpecial?_slot (name := Str.ofString "__getitem__") hm.typeIs slot_dict_getitem
    (call_meetsIn slot_dict_getitem hm.typeIs entry_dict_getitem (args_dict_getitem _ _) (meets_dict_getitem_missing (intKind prog w) d (intKind_is ..) hd) ⟨hh, f, hm, hf, fun h' e hx => h h' e hx⟩))

theorem tl_keep {Q : Mapped → Shared → Prop} {c : Nat} (hh : A.handled = none) (hd : (d == sysModules) = false) (hm : s.heap.MapOf (intKind prog w) d f) (hf : f c = none)
    (h : ∀ h', (∀ b o, s.heap.get? b = some o → h'.get? b = some o) → Q .keep { s with heap := h', toks := s.toks + 1 + 1 }) : wpAny (model prog w) A (tableLookup (.ref d) c) Q E s := by
  unfold tableLookup
  refine wpAny_bind (wpAny_attempt (wpAny_bind (wpAny_mkInt ?_)))
  refine getItem_missing (s := { s with toks := s.toks + 1 }) hh hd hm hf fun h' e hx => ?_
  refine hx.there.elim fun ob z => z.elim fun _ z => wpAny_bind (wpAny_isInstance (T := "KeyError") ⟨ob, z.1, z.2.1⟩ sub_ke_le ?_)
  rw [if_pos rfl]
  exact wpAny_bind (wpAny_rule (wpAny_pure (h h' hx.keeps)))

theorem tl_text {Q : Mapped → Shared → Prop} {c : Nat} {y : Str} {u : Tok} (hm : s.heap.MapOf (intKind prog w) d f) (hf : f c = some (.str y u))
    (h : Q (.text y) { s with toks := s.toks + 1 + 1 }) : wpAny (model prog w) A (tableLookup (.ref d) c) Q E s := by
  unfold tableLookup
  refine wpAny_bind (wpAny_attempt (wpAny_bind (wpAny_mkInt ?_)))
  refine wpAny_getItem_of (s := { s with toks := s.toks + 1 }) (intKind_is ..) hm hf ?_
  show wpAny _ A (asInt? (.str y u) >>= _) _ _ _
  refine wpAny_bind (wpAny_pure ?_)
  show wpAny _ A (asStr? (.str y u) >>= _) _ _ _
  exact wpAny_bind (wpAny_pure (wpAny_pure h))

theorem MapOf.keeps {K : Type} [DecidableEq K] {knd : KeyKind prog w K} {h h' : Heap} {f : K → Option Value} (x : h.MapOf knd d f) (hk : ∀ b o, h.get? b = some o → h'.get? b = some o) : h'.MapOf knd d f :=
  x.imp fun o => Exists.imp fun _ => Exists.imp fun _ => And.imp_left (hk _ o)

theorem translate_keep {Q : Value → Shared → Prop} {c : Nat} {t : Tok} (hh : A.handled = none) (hc : c < 128) (hd : (d == sysModules) = false) (hm : s.heap.MapOf (intKind prog w) d f) (hf : f c = none)
    (h : ∀ h', (∀ b o, s.heap.get? b = some o → h'.get? b = some o) → Q (.str ⟨#[c]⟩ (s.toks + 1 + 1)) { s with heap := h', toks := s.toks + 1 + 1 + 1 }) : wpAny (model prog w) A (call (.builtin "str.translate") [.str ⟨#[c]⟩ t, .ref d]) Q E s := by
  have hbody : ∀ (A : Around) (P : PySem.Fin → Shared → Prop), A.handled = none → (∀ h', (∀ b o, s.heap.get? b = some o → h'.get? b = some o) → P (.done (.ret (.str ⟨#[c]⟩ (s.toks + 1 + 1)))) { s with heap := h', toks := s.toks + 1 + 1 + 1 }) →
      wpAny (model prog w) A (Builtin.«str.translate» ⟨[.str ⟨#[c]⟩ t, .ref d], []⟩) P E s := by
    intro A P hh h
    unfold Builtin.«str.translate»
    refine wpAny_bind (m := strOneArg "translate" _) (wpAny_pure ?_)
    dsimp only
    have e1 : ((⟨#[c]⟩ : Str).length == 0) = false := rfl
    rw [e1]
    simp only [Bool.false_eq_true, if_false]
    have e2 : ((⟨#[c]⟩ : Str).cps.all fun x => decide (x < 128)) = true := by simpa using hc
    rw [e2]
    simp only [List.forIn_toArray, List.forIn_cons, List.forIn_nil]
    have e3 : tooLong 0 = false := by decide
    simp only [e3, Bool.false_eq_true, if_false, if_true, List.lookup]
    refine wpAny_bind (wpAny_bind (wpAny_bind (tl_keep hh hd hm hf fun h' hk => ?_)))
    refine wpAny_bind (wpAny_pure ?_)
    refine wpAny_pure ?_
    refine wpAny_pure ?_
    have e4 : tooLong (0 + 1) = false := by decide
    simp only [e4, Bool.false_eq_true, if_false]
    refine wpAny_bind (wpAny_mkStr ?_ (by show (Array.size _) ≤ _; simp; decide))
    exact wpAny_pure (h h' hk)
  refine wpAny_call_entry PySem.F.slot_str_translate (typeIs_str _ _ _) PySem.F.entry_str_translate (hbody _ _ hh fun h' hk => ⟨_, rfl, h h' hk⟩) (PySem.F.args_str_translate_2 _ _)

theorem translate_text {Q : Value → Shared → Prop} {c : Nat} {t : Tok} {y : Str} {u : Tok} (hc : c < 128) (hm : s.heap.MapOf (intKind prog w) d f) (hf : f c = some (.str y u)) (hy : y.length = 2)
    (h : Q (.str y (s.toks + 1 + 1 + 1 + 1)) { s with toks := s.toks + 1 + 1 + 1 + 1 + 1 }) : wpAny (model prog w) A (call (.builtin "str.translate") [.str ⟨#[c]⟩ t, .ref d]) Q E s := by
  have hbody : ∀ (A : Around) (P : PySem.Fin → Shared → Prop), P (.done (.ret (.str y (s.toks + 1 + 1 + 1 + 1)))) { s with toks := s.toks + 1 + 1 + 1 + 1 + 1 } →
      wpAny (model prog w) A (Builtin.«str.translate» ⟨[.str ⟨#[c]⟩ t, .ref d], []⟩) P E s := by
    intro A P h
    unfold Builtin.«str.translate»
    refine wpAny_bind (m := strOneArg "translate" _) (wpAny_pure ?_)
    dsimp only
    have e1 : ((⟨#[c]⟩ : Str).length == 0) = false := rfl
    rw [e1]
    simp only [Bool.false_eq_true, if_false]
    have e2 : ((⟨#[c]⟩ : Str).cps.all fun x => decide (x < 128)) = true := by simpa using hc
    rw [e2]
    simp only [List.forIn_toArray, List.forIn_cons, List.forIn_nil]
    have e3 : tooLong 0 = false := by decide
    simp only [e3, Bool.false_eq_true, if_false, if_true, List.lookup]
    refine wpAny_bind (wpAny_bind (wpAny_bind (tl_text hm hf ?_)))
    have e5 : (y.length == 1) = false := by rw [hy]; rfl
    simp only [e5, Bool.false_and, Bool.false_eq_true, if_false]
    refine wpAny_bind (wpAny_pure ?_)
    refine wpAny_bind (wpAny_rule (wpAny_bind (tl_text (s := { s with toks := s.toks + 1 + 1 }) hm hf ?_)))
    refine wpAny_pure ?_
    refine wpAny_pure ?_
    have e4 : tooLong (0 + y.length) = false := by rw [hy]; decide
    simp only [e4, Bool.false_eq_true, if_false]
    have e6 : (⟨List.foldl (fun acc p => acc ++ p.cps) #[] [y].reverse⟩ : Str) = y := by simp
    rw [e6]
    refine wpAny_bind (wpAny_mkStr ?_ (by rw [hy]; decide))
    exact wpAny_pure h
  refine wpAny_call_entry PySem.F.slot_str_translate (typeIs_str _ _ _) PySem.F.entry_str_translate (hbody _ _ ⟨_, rfl, h⟩) (PySem.F.args_str_translate_2 _ _)
end
end

section
open PySem PySem.W PyProof.Rows

section
variable {G : TG} {K : GK} {S0 : Reg} {Av F : Addr → Prop} {env : Env} {sc : Scope} {g g₁ : Gh} {es es₁ : ES} {s s₁ : Shared} {cells : List Cell}

theorem builtin_ok {id : String} {args : List TV} {vs : List Value} {tv : TV} {A : Around} {E P : Value → Shared → Prop} (hB : Base G K) (hh : A.handled = none) (I : Inv K S0 Av g cells s)
    (ra : RpL K.ad (g.wd Av cells s.heap) args vs) (h : Bltn cells id args tv) (p : PrimP K S0 Av g cells s cells tv P) : wpAny (model K.prog K.w) A (call (.builtin id) vs) P E s := by
  have t2 : s.toks ≤ s.toks + 1 + 1 := Nat.le_add_right _ 2
  induction h with
  | lenS hl =>
    exact ra.one1 fun v r => r.strE fun t _ => PySem.P.len_str (Int.not_le.mpr (lim63 rfl hl)) (p.tok I t2 (.int _ _))
  | len hx hl =>
    exact ra.one1 fun v r => (seqOf_inv I r hx).elim
      (fun q => q.elim fun a q => q.elim fun us q => q.elim fun n q => by
        rw [q.1]
        exact PyProof.Rows.len_list (IsList.of q.2.1) (lim63 q.2.2.length hl) (by rw [List.size_toArray, q.2.2.length]; exact p.tok I t2 (.int _ _)))
      fun q => q.elim fun a q => q.elim fun us q => q.elim fun n q => by
        rw [q.1]
        exact PyProof.Rows.len_tuple (IsTup.of q.2.1) (lim63 q.2.2.length hl) (by rw [List.size_toArray, q.2.2.length]; exact p.tok I t2 (.int _ _))
  | sum hx hl hn =>
    exact ra.one1 fun v r => (listOf_inv I r hx).elim fun a q => q.elim fun us q => q.elim fun n q => q.1 ▸ sum_ok hh I q.2.1 (RpL.ints (intList_eq hn ▸ q.2.2)) p
  | sorted hx hl hs =>
    exact ra.one1 fun v r => (seqOf_inv I r hx).elim
      (fun q => q.elim fun a q => q.elim fun us q => q.elim fun n q => q.1 ▸ sorted_ok I (.inl rfl) q.2.1 rfl rfl (by rw [strList_eq hs, List.length_map] at hl; exact hl) (strList_eq hs ▸ q.2.2) p)
      fun q => q.elim fun a q => q.elim fun us q => q.elim fun n q => q.1 ▸ sorted_ok I (.inr rfl) q.2.1 rfl rfl (by rw [strList_eq hs, List.length_map] at hl; exact hl) (strList_eq hs ▸ q.2.2) p
  | max hx hn hl hM =>
    exact ra.one1 fun v r => (listOf_inv I r hx).elim fun a q => q.elim fun us q => q.elim fun n q => q.1 ▸ max_ok hh I q.2.1 (RpL.ints (intList_eq hn ▸ q.2.2)) hM p
  | isi =>
    exact ra.two fun v u r r' => r.strE fun t _ => r'.gE (call_isinstance_yes (typeIs_str ..) PySem.F.isi_meta_str PySem.F.sub_str_str (p.here I (.bool _)))
  | join hx hs h1 h2 h3 h4 =>
    exact ra.two fun v u r r' => r.strE fun t ex => (listOf_inv I r' hx).elim fun a q => q.elim fun us q => q.elim fun n q => q.1 ▸ join_ok I q.2.1 (strList_eq hs ▸ q.2.2) h1 h2 h3 h4 ex p
  | starts hl =>
    exact ra.two fun v u r r' => r.strE fun t ex => r'.strE fun t' ex' => PySem.SC.startswith (p.here I (.bool _))
  | split h1 h2 h3 h4 =>
    exact ra.two fun v u r r' => r.strE fun t ex => r'.strE fun t' ex' => split_ok I ex h1 (List.all_eq_true.mp h2) h3 h4 p
  | @keep x hx =>
    refine ra.two fun v u r r' => r.strE fun t ex => r'.fnE fun fa had => (hB.chars _ had).2.elim fun f hf => ?_
    have hm : s.heap.MapOf (intKind K.prog K.w) _ f := MapOf.keeps hf.1 fun b o e => (I.base b o e).1
    have keep : ∀ c : Nat, c < 128 → f c = none → x = ⟨#[c]⟩ → wpAny (model K.prog K.w) A (call (.builtin "str.translate") [.str x t, .ref fa]) P E s := by
      intro c hc hfc hx
      subst hx
      refine translate_keep hh hc (hB.chars _ had).1 hm hfc fun h' hk => ?_
      have J := I.str (h' := h') (t := s.toks + 1 + 1) (tk := s.toks + 1 + 1 + 1) t2 (Nat.lt_succ_self _) (I.strOk ex) hk
      exact p _ _ _ J.1 J.2 (strT ..)
    exact hx.elim (keep 97 (by decide) hf.2.1) fun hx => hx.elim (keep 98 (by decide) hf.2.2.1) (keep 47 (by decide) hf.2.2.2.1)
  | dot =>
    refine ra.two fun v u r r' => r.strE fun t ex => r'.fnE fun fa had => (hB.chars _ had).2.elim fun f hf => hf.2.2.2.2.elim fun u f46 => ?_
    refine translate_text (c := 46) (by decide) (MapOf.keeps hf.1 fun b o e => (I.base b o e).1) f46 rfl ?_
    have J := I.str (h' := s.heap) (t := s.toks + 1 + 1 + 1 + 1) (tk := s.toks + 1 + 1 + 1 + 1 + 1) (x := "\\.") (Nat.le_add_right _ 4) (Nat.lt_succ_self _) (by decide +kernel) (fun _ _ e => e)
    exact p _ _ _ J.1 J.2 (strT ..)
end
end

section
open PySem PySem.W PyProof.Rows
theorem sub_list_module : isSubtype (.type "list") (.type "module") = pure false := by rw [isSubtype_type]; kernel_rfl
noncomputable def sigAppend : Manifest.Signature := ⟨.oneArg, "list.append", "append", .self, [⟨"object", .posOnly, true⟩]⟩
theorem sig_append : Manifest.signature? "list.append" = some sigAppend := by first | rfl | kernel_rfl
theorem kind_append : builtinKind "list.append" = some .method := by decide +kernel
theorem not_varargs : Manifest.varargsMethods.contains "list.append" = false := by decide +kernel
theorem name_append : s!"{Bind.lastOf "list"}.{Bind.lastOf "list.append"}" = "list.append" := by decide +kernel
theorem args_append (l v : Value) : Bind.checkArgs "list.append" { sigAppend with full := "list.append" } ⟨[l, v], []⟩ = pure () := by first | rfl | kernel_rfl
theorem sub_list_type : isSubtype (.type "list") (.type "type") = pure false := by rw [isSubtype_type]; kernel_rfl
theorem quiet_append (args : Args) : (Code.builtin "list.append" args).quiet = true := Code.quiet_builtin _ (by decide +kernel)

section
variable {prog : Program} {w : World} {A : Around} {E : Value → Shared → Prop} {s : Shared}
theorem check_append {l : Addr} {v : Value} {vs : List Value} {n : Nat} {P : Unit → Shared → Prop} (ho : s.heap.get? l = some (listObj vs n)) (h : P () s) : wpAny (model prog w) A (checkBoundCall "list.append" ⟨[.ref l, v], []⟩) P E s := by
  have hT : s.TypeIs (.ref l) "list" := ⟨_, ho, rfl⟩
  unfold checkBoundCall
  simp only [sig_append, kind_append]
  have e1 : (Manifest.AttrKind.method != Manifest.AttrKind.method && Manifest.AttrKind.method != Manifest.AttrKind.classMethod) = false := by decide
  simp only [e1, Bool.false_eq_true, if_false]
  refine wpAny_bind (wpAny_isInstance hT sub_list_module ?_)
  simp only [not_varargs, Bool.or_false, Bool.false_eq_true, if_false]
  refine wpAny_bind ?_
  unfold isType
  refine wpAny_bind (wpAny_loadPart ho ?_)
  refine wpAny_pure ?_
  refine wpAny_bind (wpAny_typeOf hT ?_)
  dsimp only
  rw [name_append]
  exact wpAny_of_eq (args_append _ _) h
end
end

section
open PySem PySem.W PyProof.Rows
theorem sub_list_list : isSubtype (.type "list") (.type "list") = pure true := by rw [isSubtype_type]; kernel_rfl
theorem sub_iter_iter : isSubtype (.type "list_iterator") (.type "list_iterator") = pure true := by rw [isSubtype_type]; kernel_rfl
theorem sub_iter_module : isSubtype (.type "list_iterator") (.type "module") = pure false := by rw [isSubtype_type]; kernel_rfl
theorem ga_entry_iter : entryFor table "object.__getattribute__" = some Builtin.«object.__getattribute__» := entryFor_of_tree (by kernel_rfl)
theorem ga_slot_iter : Slot "list_iterator" "__getattribute__" "object.__getattribute__" :=
  .of (owner := "object") (n := "__getattribute__") (by rw [typeLookup_type, builtinLookup_eq_fast]; kernel_rfl) (by decide +kernel) (by decide +kernel) (by decide +kernel)
    (by first | exact .inl (by decide +kernel) | exact .inr (by decide +kernel)) (by rw [isSubtype_type]; kernel_rfl)
theorem ga_args_iter (a b : Value) : argsOk "object.__getattribute__" ⟨[a, b], []⟩ := by unfold argsOk; kernel_rfl
theorem next_type : typeOf (.builtin "list_iterator.__next__") = pure (.type "wrapper_descriptor") := by show builtinType _ = _; rw [builtinType_eq_fast]; kernel_rfl

theorem gslot_ap : Slot "method_descriptor" "__get__" "method_descriptor.__get__" :=
  .of (owner := "method_descriptor") (n := "__get__") (by rw [typeLookup_type, builtinLookup_eq_fast]; kernel_rfl) (by decide +kernel) (by decide +kernel) (by decide +kernel)
    (by first | exact .inl (by decide +kernel) | exact .inr (by decide +kernel)) (by rw [isSubtype_type]; kernel_rfl)
theorem gentry_ap : entryFor table "method_descriptor.__get__" = some Builtin.«method_descriptor.__get__» := entryFor_of_tree (by kernel_rfl)
theorem gargs_ap (a b c : Value) : argsOk "method_descriptor.__get__" ⟨[a, b, c], []⟩ := by unfold argsOk; kernel_rfl
theorem gset_ap : typeLookup (.type "method_descriptor") "__set__" = pure none := by rw [typeLookup_type, builtinLookup_eq_fast]; kernel_rfl
theorem gdel_ap : typeLookup (.type "method_descriptor") "__delete__" = pure none := by rw [typeLookup_type, builtinLookup_eq_fast]; kernel_rfl
theorem told_ap : Manifest.toldItsClass.contains "list.append" = false := by decide +kernel
section
variable {prog : Program} {w : World} {A : Around} {E : Value → Shared → Prop} {s : Shared}
noncomputable abbrev bound_ap (a : Addr) : Obj := { cls := .type "builtin_function_or_method", data := .fields #[.builtin "list.append", .ref a] }
theorem grun_ap {a : Addr} {o : Obj} {P : PySem.Fin → Shared → Prop} (hx : s.heap.get? a = some o) (hc : o.cls = .type "list") (h : P (.done (.ret (.ref s.heap.objs.size))) { s with heap := s.heap.push (bound_ap a) }) :
    wpAny (model prog w) A (Builtin.«method_descriptor.__get__» ⟨[.builtin "list.append", .ref a, .type "list"], []⟩) P E s := by
  have hT : s.TypeIs (.ref a) "list" := ⟨_, hx, hc⟩
  unfold Builtin.«method_descriptor.__get__»
  refine wpAny_bind (wpAny_of_eq (a := (.builtin "list.append", some (.ref a), some (.type "list"))) (by first | rfl | kernel_rfl) ?_)
  dsimp only
  rw [told_ap]
  simp only [Bool.false_eq_true, if_false]
  refine wpAny_bind ?_
  refine wpAny_bind (wpAny_of_eq (a := (("append" : Str), Value.type "list")) (by first | rfl | kernel_rfl) ?_)
  refine wpAny_bind (wpAny_isInstance hT sub_list_list ?_)
  refine wpAny_pure ?_
  exact wpAny_bind (wpAny_newObj_type (wpAny_pure h))
theorem gga_ap {a : Addr} {vs : List Value} {n : Nat} {u : Tok} {P : PySem.Fin → Shared → Prop} (hx : s.heap.get? a = some { cls := .type "list", data := .seq vs.toArray n })
    (h : P (.done (.ret (.ref s.heap.objs.size))) { s with heap := s.heap.push (bound_ap a) }) :
    wpAny (model prog w) A (Builtin.«object.__getattribute__» ⟨[.ref a, .str "append" u], []⟩) P E s := by
  obtain ⟨hp, g, d, tk, os⟩ := s
  have hT : (⟨hp, g, d, tk, os⟩ : Shared).TypeIs (.ref a) "list" := ⟨_, hx, rfl⟩
  have hT5 : (⟨hp, g, d, tk, os⟩ : Shared).TypeIs (.builtin "list.append") "method_descriptor" := PySem.F.type_list_append
  have f4 := PySem.F.slot_list_append.lookup
  have f5 := PySem.F.type_list_append
  have f6 := gslot_ap.lookup
  have f7 := gset_ap
  have f8 := gdel_ap
  have hname : (["__module__", "__name__", "__qualname__", "__doc__", "__annotations__"] : List Str).contains "append" = false := by decide
  unfold Builtin.«object.__getattribute__»
  repeat (any_goals (first | assumption | wp_step))
  · refine codeAny_call_builtin gslot_ap.plain gentry_ap (gslot_ap.check _ _ _ _ _ _ _ _ hT5 (gargs_ap _ _ _) (grun_ap hx rfl ?_))
    exact wpAny_pure h
theorem getattr_ap {a : Addr} {vs : List Value} {n : Nat} {Q : Value → Shared → Prop} {ex : Bool} (hx : s.heap.get? a = some { cls := .type "list", data := .seq vs.toArray n })
    (h : Q (.ref s.heap.objs.size) { s with heap := s.heap.push (bound_ap a), toks := s.toks + 1 }) :
    wpAny (model prog w) A (getAttr (.ref a) "append" ex) Q E s := by
  have hT : ({ s with toks := s.toks + 1 } : Shared).TypeIs (.ref a) "list" := ⟨_, hx, rfl⟩
  have hlk := PySem.F.slot_list_getattribute.lookup
  unfold getAttr getAttrBy
  refine wpAny_bind (wpAny_mkText (wpAny_holding (wpAny_bind (wpAny_typeOf hT (wpAny_bind (wpAny_of_eq hlk ?_))))))
  show wpAny _ _ (getAttrByItsOwn (.ref a) (.str "append" s.toks) (.type "list") (.builtin "list.__getattribute__") true ex) _ _ _
  unfold getAttrByItsOwn hookBefore callGetattribute boundAndCalled
  refine wpAny_bind (wpAny_of_eq (show (if onTheHeap (.type "list") then typeLookup (.type "list") "__getattr__" else pure none) = pure none from rfl) ?_)
  refine wpAny_bind (wpAny_attempt (wpAny_holding ?_))
  have e0 : (ex && onTheHeap (.builtin "list.__getattribute__")) = false := by cases ex <;> rfl
  rw [e0]
  show wpAny _ _ (bindSpecial (.builtin "list.__getattribute__") (.ref a) >>= _) _ _ _
  refine wpAny_bind (wpAny_of_eq (PySem.F.slot_list_getattribute.bind _) ?_)
  refine wpAny_mono (Q := fun v s' => v = .ref s.heap.objs.size ∧ s' = { s with heap := s.heap.push (bound_ap a), toks := s.toks + 1 }) (E := fun _ _ => False)
    (wpAny_call_entry PySem.F.slot_list_getattribute hT am_entry_list_getattribute (gga_ap (s := { s with toks := s.toks + 1 }) hx ⟨_, rfl, rfl, rfl⟩) (PySem.F.args_list_getattribute_2 _ _)) (fun v s' hv => ?_) fun _ _ z => z.elim
  obtain ⟨rfl, rfl⟩ := hv
  exact wpAny_pure h
end

theorem gslot_nx : Slot "wrapper_descriptor" "__get__" "wrapper_descriptor.__get__" :=
  .of (owner := "wrapper_descriptor") (n := "__get__") (by rw [typeLookup_type, builtinLookup_eq_fast]; kernel_rfl) (by decide +kernel) (by decide +kernel) (by decide +kernel)
    (by first | exact .inl (by decide +kernel) | exact .inr (by decide +kernel)) (by rw [isSubtype_type]; kernel_rfl)
theorem gentry_nx : entryFor table "wrapper_descriptor.__get__" = some Builtin.«wrapper_descriptor.__get__» := entryFor_of_tree (by kernel_rfl)
theorem gargs_nx (a b c : Value) : argsOk "wrapper_descriptor.__get__" ⟨[a, b, c], []⟩ := by unfold argsOk; kernel_rfl
theorem gset_nx : typeLookup (.type "wrapper_descriptor") "__set__" = pure none := by rw [typeLookup_type, builtinLookup_eq_fast]; kernel_rfl
theorem gdel_nx : typeLookup (.type "wrapper_descriptor") "__delete__" = pure none := by rw [typeLookup_type, builtinLookup_eq_fast]; kernel_rfl
theorem told_nx : Manifest.toldItsClass.contains "list_iterator.__next__" = false := by decide +kernel
section
variable {prog : Program} {w : World} {A : Around} {E : Value → Shared → Prop} {s : Shared}
noncomputable abbrev bound_nx (a : Addr) : Obj := { cls := .type "method-wrapper", data := .fields #[.builtin "list_iterator.__next__", .ref a] }
theorem grun_nx {a : Addr} {o : Obj} {P : PySem.Fin → Shared → Prop} (hx : s.heap.get? a = some o) (hc : o.cls = .type "list_iterator") (h : P (.done (.ret (.ref s.heap.objs.size))) { s with heap := s.heap.push (bound_nx a) }) :
    wpAny (model prog w) A (Builtin.«wrapper_descriptor.__get__» ⟨[.builtin "list_iterator.__next__", .ref a, .type "list_iterator"], []⟩) P E s := by
  have hT : s.TypeIs (.ref a) "list_iterator" := ⟨_, hx, hc⟩
  unfold Builtin.«wrapper_descriptor.__get__»
  refine wpAny_bind (wpAny_of_eq (a := (.builtin "list_iterator.__next__", some (.ref a), some (.type "list_iterator"))) (by first | rfl | kernel_rfl) ?_)
  dsimp only
  refine wpAny_bind ?_
  refine wpAny_bind (wpAny_of_eq (a := (("__next__" : Str), Value.type "list_iterator")) (by first | rfl | kernel_rfl) ?_)
  refine wpAny_bind (wpAny_isInstance hT sub_iter_iter ?_)
  refine wpAny_pure ?_
  exact wpAny_bind (wpAny_newObj_type (wpAny_pure h))
theorem gga_nx {a : Addr} {l : Addr} {i : Int} {t : Tok} {u : Tok} {P : PySem.Fin → Shared → Prop} (hx : s.heap.get? a = some { cls := .type "list_iterator", data := .fields #[.ref l, .int i t] })
    (h : P (.done (.ret (.ref s.heap.objs.size))) { s with heap := s.heap.push (bound_nx a) }) :
    wpAny (model prog w) A (Builtin.«object.__getattribute__» ⟨[.ref a, .str "__next__" u], []⟩) P E s := by
  obtain ⟨hp, g, d, tk, os⟩ := s
  have hT : (⟨hp, g, d, tk, os⟩ : Shared).TypeIs (.ref a) "list_iterator" := ⟨_, hx, rfl⟩
  have hT5 : (⟨hp, g, d, tk, os⟩ : Shared).TypeIs (.builtin "list_iterator.__next__") "wrapper_descriptor" := next_type
  have f4 := slot_listiter_next.lookup
  have f5 := next_type
  have f6 := gslot_nx.lookup
  have f7 := gset_nx
  have f8 := gdel_nx
  have hname : (["__module__", "__name__", "__qualname__", "__doc__", "__annotations__"] : List Str).contains "__next__" = false := by decide
  unfold Builtin.«object.__getattribute__»
  repeat (any_goals (first | assumption | wp_step))
  · refine codeAny_call_builtin gslot_nx.plain gentry_nx (gslot_nx.check _ _ _ _ _ _ _ _ hT5 (gargs_nx _ _ _) (grun_nx hx rfl ?_))
    exact wpAny_pure h
theorem getattr_nx {a : Addr} {l : Addr} {i : Int} {t : Tok} {Q : Value → Shared → Prop} {ex : Bool} (hx : s.heap.get? a = some { cls := .type "list_iterator", data := .fields #[.ref l, .int i t] })
    (h : Q (.ref s.heap.objs.size) { s with heap := s.heap.push (bound_nx a), toks := s.toks + 1 }) :
    wpAny (model prog w) A (getAttr (.ref a) "__next__" ex) Q E s := by
  have hT : ({ s with toks := s.toks + 1 } : Shared).TypeIs (.ref a) "list_iterator" := ⟨_, hx, rfl⟩
  have hlk := ga_slot_iter.lookup
  unfold getAttr getAttrBy
  refine wpAny_bind (wpAny_mkText (wpAny_holding (wpAny_bind (wpAny_typeOf hT (wpAny_bind (wpAny_of_eq hlk ?_))))))
  show wpAny _ _ (getAttrByItsOwn (.ref a) (.str "__next__" s.toks) (.type "list_iterator") (.builtin "object.__getattribute__") true ex) _ _ _
  unfold getAttrByItsOwn hookBefore callGetattribute boundAndCalled
  refine wpAny_bind (wpAny_of_eq (show (if onTheHeap (.type "list_iterator") then typeLookup (.type "list_iterator") "__getattr__" else pure none) = pure none from rfl) ?_)
  refine wpAny_bind (wpAny_attempt (wpAny_holding ?_))
  have e0 : (ex && onTheHeap (.builtin "object.__getattribute__")) = false := by cases ex <;> rfl
  rw [e0]
  show wpAny _ _ (bindSpecial (.builtin "object.__getattribute__") (.ref a) >>= _) _ _ _
  refine wpAny_bind (wpAny_of_eq (ga_slot_iter.bind _) ?_)
  refine wpAny_mono (Q := fun v s' => v = .ref s.heap.objs.size ∧ s' = { s with heap := s.heap.push (bound_nx a), toks := s.toks + 1 }) (E := fun _ _ => False)
    (wpAny_call_entry ga_slot_iter hT ga_entry_iter (gga_nx (s := { s with toks := s.toks + 1 }) hx ⟨_, rfl, rfl, rfl⟩) (ga_args_iter _ _)) (fun v s' hv => ?_) fun _ _ z => z.elim
  obtain ⟨rfl, rfl⟩ := hv
  exact wpAny_pure h
end

section
variable {prog : Program} {w : World} {A : Around} {E : Value → Shared → Prop} {s : Shared}
/-- a bound append, called -/
theorem call_bound_append {q l : Addr} {vs : List Value} {n : Nat} {v : Value} {Q : Value → Shared → Prop} {o : Obj} (hq : s.heap.get? q = some o) (hc : o.cls = .type "builtin_function_or_method") (hd : o.data = .fields #[.builtin "list.append", .ref l]) (ho : s.heap.get? l = some (listObj vs n)) (hz : vs.length ≤ sizeLine)
    (h : Q .none { s with heap := s.heap.update l (Obj.mapSeq fun x => x.push v) }) : wpAny (model prog w) A (call (.ref q) [v]) Q E s := by
  refine wpAny_call (codeAny_of_tree ?_)
  show wpAny _ A.in1 (callAny (.ref q) ⟨[v], []⟩) _ _ s
  refine wpAny_bind (wpAny_load hq ?_)
  obtain ⟨c, dd, dat, sl⟩ := o
  dsimp only at hc hd
  subst hc hd
  dsimp only
  rw [if_pos (by decide)]
  show wpAny _ _ (if (Value.type "builtin_function_or_method" != Value.type "method") = true then _ else _) _ _ _
  rw [if_pos (by decide)]
  refine wpAny_bind (check_append ho ?_)
  refine wpAny_bind (wpAny_pure (wpAny_pure ?_))
  refine ⟨quiet_append _, codeAny_builtin PySem.F.entry_list_append ?_⟩
  rw [Around.under_plainId PySem.F.slot_list_append.plain _]
  exact list_append l vs.toArray n v (by simpa using hz) prog w A (fun r s' => match r with | .ok (.ret v) => Q v s' | .ok _ => False | .error e => E e s') s ⟨ho, h⟩
end
end

section
open PySem PySem.W PyProof.Rows

theorem iter_entry : entryFor table "iter" = some Builtin.«iter» := entryFor_of_fast (by kernel_rfl)
theorem iter_args (a : Value) : argsOk "iter" ⟨[a], []⟩ := by unfold argsOk; kernel_rfl

section
variable {G : TG} {K : GK} {S0 : Reg} {Av F : Addr → Prop} {env : Env} {sc : Scope} {g g₁ : Gh} {es es₁ : ES} {s s₁ : Shared} {cells : List Cell}

theorem meets_bool_list {a : Addr} {vs : List Value} {n : Nat} (hz : (vs.length : Int) < 2 ^ 63) :
    Meets (Builtin.«bool.__new__» ⟨[.type "bool", .ref a], []⟩) (fun _ R s => s.heap.get? a = some (listObj vs n) ∧ R (.ok (.ret (.bool (!vs.isEmpty)))) { s with toks := s.toks + 1 + 1 }) :=
  Meets.of_wp fun prog w A R s hs => by
    obtain ⟨hp, g, d, tk, os⟩ := s
    obtain ⟨hl, hs⟩ := hs
    have f1 := PySem.F.conv_sub_bool
    repeat (any_goals (first | assumption | (with_reducible refine wpAny_truthy_list (IsList.of hl) (by simpa using hz) ?_) | wp_step))
    all_goals first | exact ⟨_, rfl, by simpa using hs⟩ | simpa using hs | skip

/-- a new changing thing -/
theorem PrimP.newCell {c : Cell} {o : Obj} {tk : Nat} {P : Value → Shared → Prop} (p : PrimP K S0 Av g cells s (cells ++ [c]) (.ref cells.length) P) (I : Inv K S0 Av g cells s) (hf : o.isFreed = false) (ht : s.toks ≤ tk)
    (hc : ∀ (W : Wd) (h : Heap) (a : Addr), (g.wd Av cells s.heap).Le W → h.get? a = some o → CellR K W h a c) : P (.ref s.heap.objs.size) { s with heap := s.heap.push o, toks := tk } :=
  have e := Heap.get?_push_size s.heap hf
  have J := I.newCell (c := c) (h' := s.heap.push o) (tk := tk) (fun a o' e => Heap.get?_push_of_some _ e) ht (get_size _) e (fun le => hc _ _ _ le e)
  p _ _ _ J.1 J.2 (.ref (by show (g.am ++ [_])[cells.length]? = _; rw [← I.len]; exact List.getElem?_concat_length))

theorem rangeL_rp {ad : Str → Option Addr} {W : Wd} {lo st : Int} {n : Nat} {acc : Array Value} (h : ItemsOf (fun i v => ∃ t, v = .int (lo + i * st) t) acc n) :
    RpL ad W ((List.range n).map fun (i : Nat) => TV.int (lo + (i : Int) * st)) acc.toList := by
  obtain ⟨hs, hv⟩ := h
  have key : ∀ (k : Nat) (vs : List Value), (∀ j v, vs[j]? = some v → ∃ t, v = Value.int (lo + ((k + j : Nat) : Int) * st) t) → RpL ad W ((List.range' k vs.length).map fun (i : Nat) => TV.int (lo + (i : Int) * st)) vs := by
    intro k vs
    induction vs generalizing k with
    | nil => intro _; exact .nil
    | cons v vs ih => exact fun hv => .cons (hv 0 v rfl) (ih (k + 1) fun j u hj => (hv (j + 1) u hj).imp fun t e => by rw [e, Nat.add_assoc, Nat.add_comm 1])
  have := key 0 acc.toList fun j v hj => (hv j v (Array.getElem?_toList.symm.trans hj)).imp fun t e => by rw [e, Nat.zero_add]
  rw [Array.length_toList, hs] at this
  rwa [List.range_eq_range']

theorem type_ok {T : String} {args : List TV} {vs : List Value} {tv : TV} {A : Around} {E P : Value → Shared → Prop} (hh : A.handled = none) (I : Inv K S0 Av g cells s)
    (ra : RpL K.ad (g.wd Av cells s.heap) args vs) (h : TyC cells T args tv) (p : PrimP K S0 Av g cells s cells tv P) : wpAny (model K.prog K.w) A (call (.type T) vs) P E s := by
  have t2 : s.toks ≤ s.toks + 1 + 1 := Nat.le_add_right _ 2
  induction h with
  | str => exact ra.one1 fun v r => r.strE fun t ex => PySem.P.str_of_str (p.here I (.str ex))
  | @strI i h1 h2 =>
    refine ra.one1 fun v r => r.intE fun t => PySem.P.str_of_int ?_ (p.str I h2)
    by_cases hz : i.natAbs = 0
    · rw [hz]; decide
    · exact Nat.lt_of_lt_of_le ((Nat.log2_lt hz).mpr h1) (by decide)
  | @list lo hi st h1 h2 h3 =>
    refine ra.one1 fun v r => r.rngE fun a t u w e => wpAny_with_toks (Nat.le_refl _) (wpAny_mono (call_list_range (Q := fun v s' => s.toks ≤ s'.toks → P v s') hh e.1 h1 (n := (Builtin.Range.rangeSize lo hi st).toNat) (by omega) (by have hlim : (lim : Int) = 4096 := rfl; omega) fun h' tk acc' c' hk hn hacc ht => ?_) (fun _ _ x => x) fun _ _ x _ => x)
    exact p.keep I hk ht fun le => .list (vs := acc'.toList) (n := c') (by rw [listObj, Array.toArray_toList]; exact I.newV (get_size _) hn) (rangeL_rp hacc)
  | range1 => exact ra.one1 fun v r => r.intE fun t => call_range_1 (p.new I t2 rfl fun W le hV => .rng hV)
  | range2 => exact ra.two fun v u r r' => r.intE fun t => r'.intE fun t' => call_range_2 (p.new I (Nat.le_succ _) rfl fun W le hV => .rng hV)
  | range3 h1 h2 => exact ra.three fun v u w r r' r'' => r.intE fun t => r'.intE fun t' => r''.intE fun t'' => call_range_3 h1 (p.new I (Nat.le_refl _) rfl fun W le hV => .rng hV) (.inl h2)
  | bool hx hl => exact ra.one1 fun v r => (listOf_inv I r hx).elim fun a q => q.elim fun us q => q.elim fun n q => q.1 ▸ call_bool_1 (meets_bool_list (a := a) (vs := us) (n := n) (lim63 q.2.2.length hl)) ⟨q.2.1, rfl, isEmpty_list q.2.2.length ▸ p.tok I t2 (.bool _)⟩
  | tuple hx hl =>
    refine ra.one1 fun v r => (listOf_inv I r hx).elim fun a q => q.elim fun us q => q.elim fun n q => q.1 ▸ call_tuple_list (IsList.of q.2.1) (fun h' hk => ?_) (size_le q.2.2.length hl)
    have hf : s.heap.get? h'.objs.size = none := Option.eq_none_iff_forall_ne_some.mpr fun o q => Nat.lt_irrefl _ (Heap.lt_size (hk _ _ q))
    exact p.keep I (fun b o z => Heap.get?_push_of_some _ (hk b o z)) (Nat.le_refl _) fun le => .tup (I.newV hf (Heap.get?_push_size _ rfl)) (RpL.mono le q.2.2)
  | type => exact ra.one1 fun v r => r.strE fun t ex => call_type_of (typeIs_str ..) (by decide) (p.here I (.g rfl))

theorem plain_ok {hn : Bool} {f : TV} {fv : Value} {args : List TV} {vs : List Value} {tv : TV} {cells' : List Cell} {A : Around} {E P : Value → Shared → Prop} (hB : Base G K) (hh : hn = true → A.handled = none) (I : Inv K S0 Av g cells s)
    (rf : Rp K.ad (g.wd Av cells s.heap) f fv) (ra : RpL K.ad (g.wd Av cells s.heap) args vs) (h : Plain hn cells f args tv cells') (p : PrimP K S0 Av g cells s cells' tv P) : wpAny (model K.prog K.w) A (call fv vs []) P E s := by
  induction h with
  | iter hc =>
    refine rf.gE (ra.one1 fun v r => r.refE fun a e => (I.listAt hc e).elim fun us z => z.elim fun m z => Calls.call_function_entry (by decide +kernel) (by decide +kernel) iter_entry (iter_args _) ?_)
    unfold Builtin.«iter»
    refine wpAny_bind (m := someArgs "iter" 1 2 _) (wpAny_of_eq (a := [Value.ref a]) (by first | rfl | kernel_rfl!) ?_)
    show wpAny _ _ (pyIter (.ref a) >>= _) _ _ _
    exact wpAny_bind (wpAny_pyIter_list (IsList.of z.1) (wpAny_pure ⟨_, rfl, p.newCell I rfl (Nat.le_refl _) fun W h b le z => ⟨a, z, le.am e⟩⟩))
  | meth h => exact rf.gE (ra.consE fun v us r ra => r.refE fun a e => cellMeth_ok hB I e ra h p)
  | fn hn h => exact rf.gE (builtin_ok hB (hh hn) I ra h p)
  | set =>
    refine rf.gE (ra.nilE (call_set_0 fun led => p.newCell I rfl (Nat.le_refl _) fun W h b le z => ⟨_, z, ⟨#[], 0, _, ⟨rfl, rfl, rfl⟩, rfl, ?_, ?_, ?_, ?_, rfl⟩, fun x hx => nomatch hx⟩))
    · first | exact .nil | simp [ElemsOf] | (intro e he; cases he)
    · exact fun k => ⟨fun z => (nomatch z), fun z => z.elim fun _ z => (nomatch z.1)⟩
    · decide
    · first | rfl | (cases led <;> rfl) | decide
  | type hn h => exact rf.gE (type_ok (hh hn) I ra h p)
  | bound hc hl =>
    exact ra.one1 fun u rv => rf.elim fun c z => z.elim fun a z => z.elim fun o z => (I.listAt hc z.2.1).elim fun us y => y.elim fun m y => z.1 ▸
      call_bound_append z.2.2.1.1 z.2.2.2.1 z.2.2.2.2 y.1 (by rw [y.2.length]; exact lim_le hl) (list_meth (f := fun x => x.push u) (us' := us ++ [u]) I hc z.2.1 y.1 (List.push_toArray us u) (fun le => (RpL.mono le y.2).append (.one (rv.mono le))) .none p)
end
end

section
open PySem PySem.W PyProof.Rows

section
variable {G : TG} {K : GK} {S0 : Reg} {Av F : Addr → Prop} {env : Env} {sc : Scope} {g g₁ : Gh} {es es₁ : ES} {s s₁ : Shared} {cells : List Cell}

theorem Inv.ns (I : Inv K S0 Av g cells s) {a : Addr} {m : Str → Option Value} (h : K.B.Ns a m) : s.heap.Ns a m := h.imp fun o => Exists.imp fun _ => Exists.imp fun _ => And.imp_left fun e => (I.base _ o e).1

theorem EnvR.kind1 {ad : Str → Option Addr} {W : Wd} {loc : Str → Option TV} {h : Heap} {x : Str} {k : NameKind} (R : EnvR ad W Av F env sc loc h) (e : sc.names.lookup x = some k) (hk : k ≠ .free) : env.kindOf x = some k := (R.kinds x k e).elim id fun z => absurd z.1 hk

/-- a name's value is read -/
noncomputable def NameAt (K : GK) (S0 : Reg) (Av : Addr → Prop) (env : Env) (g : Gh) (es : ES) (s : Shared) (x : Str) (pos : Pos) (tv : TV) : Prop :=
  ∃ v, Rp K.ad (g.wd Av es.cells s.heap) tv v ∧ ∀ (A : Around) (E P : Value → Shared → Prop), P v s → wpAny (model K.prog K.w) A (eval (.Name x pos) env) P E s
theorem name_cell {x : Str} {pos : Pos} {tv : TV} {cv : Option Value} (h : ∀ tv, es.loc x = some tv → ∃ v, cv = some v ∧ Rp K.ad (g.wd Av es.cells s.heap) tv v) (e : es.loc x = some tv) (k : ∀ v, cv = some v → ∀ (A : Around) (E P : Value → Shared → Prop), P v s → wpAny (model K.prog K.w) A (eval (.Name x pos) env) P E s) : NameAt K S0 Av env g es s x pos tv :=
  (h tv e).imp fun v z => ⟨z.2, k v z.1⟩

theorem name_same {x : Str} {pos : Pos} {tv : TV} (hB : Base G K) (n : Now K S0 Av F env sc g es s) (h : nameTV G sc es.loc x = some tv) : NameAt K S0 Av env g es s x pos tv := by
  have R := n.env
  have I := n.inv
  unfold nameTV at h
  by_cases hx : x = "__debug__" ∨ x = "__classdict__"
  · rw [if_pos hx] at h; exact noneE h
  rw [if_neg hx] at h
  have hd : (x == ("__debug__" : Str)) = false := beq_eq_false_iff_ne.mpr fun e => hx (.inl e)
  have hcd : (x == ("__classdict__" : Str)) = false := beq_eq_false_iff_ne.mpr fun e => hx (.inr e)
  refine bindE h fun k hl h => ?_
  cases k with
  | «local» => exact R.ns.elim fun m hm => (hm.2 x tv hl h).imp fun v z => ⟨z.2, fun A E P p => wpAny_Name (wpAny_loadName_local R.kind (R.kind1 hl nofun) hm.1 z.1 p) hd⟩
  | cell => exact (R.cellF x hl).elim fun a z => z.elim fun cv z => name_cell z.2.2.2.2 h fun v e A E P p => wpAny_Name (wpAny_loadName_cell R.kind (R.kind1 hl nofun) z.1 (e ▸ z.2.1) p) hd
  | free => exact (R.freeF x hl).elim fun a z => z.elim fun cv z => name_cell z.2.2.2.2 h fun v e A E P p => wpAny_Name ((R.kinds x _ hl).elim (fun hk => wpAny_loadName_free R.kind hk z.1 (e ▸ z.2.1) p hcd) fun hk => wpAny_loadName_cell R.kind hk.2 z.1 (e ▸ z.2.1) p) hd
  | globalImplicit =>
    have hk := R.kind1 hl nofun
    refine (hB.names x tv h).elim fun mg z => z.elim fun mb z => z.elim fun v z => ⟨v, z.2.2.2 _, fun A E P p => wpAny_Name ?_ hd⟩
    rw [loadName_read R.kind hk]
    exact z.2.2.1.elim (fun hv => Calls.loadGlobal_global (by rw [R.glob]; exact I.ns z.1) hv p) fun hv => Calls.loadGlobal_builtin (by rw [R.glob]; exact I.ns z.1) hv.1 (by rw [R.bltn]; exact I.ns z.2.1) hv.2 p
  | globalExplicit => exact noneE h

theorem name_ok {x : Str} {pos : Pos} {tv : TV} {A : Around} {E P : Value → Shared → Prop} (hB : Base G K) (n : Now K S0 Av F env sc g es s) (h : nameTV G sc es.loc x = some tv)
    (p : PrimP K S0 Av g es.cells s es.cells tv P) : wpAny (model K.prog K.w) A (eval (.Name x pos) env) P E s := (name_same (pos := pos) hB n h).elim fun v z => z.2 A E P (p.here n.inv z.1)

/-- the frame's own things change: an available place is written -/
theorem Now.setAv (n : Now K S0 Av F env sc g es s) {a : Addr} {h' : Heap} {tk : Nat} {loc' : Str → Option TV} (ha : F a) (hs : Heap.SameBut a s.heap h') (he : ∃ o, h'.get? a = some o) (hdi : DictAt s.heap a → DictAt h' a) (ht : s.toks ≤ tk)
    (hr : (g.wd Av es.cells s.heap).Le (g.wd Av es.cells h') → EnvR K.ad (g.wd Av es.cells h') Av F env sc loc' h') :
    Now K S0 Av F env sc g { es with loc := loc' } { s with heap := h', toks := tk } ∧ Kp Av F g es.cells s g es.cells { s with heap := h', toks := tk } :=
  have I := n.inv
  have hk : ∀ b o, b ≠ a → s.heap.get? b = some o → h'.get? b = some o := sameBut_keep hs
  have nA : ∀ b, ¬ Av b → b ≠ a := fun b h z => h (z ▸ n.env.fsub _ ha)
  have le : (g.wd Av es.cells s.heap).Le (g.wd Av es.cells h') := wd_le fun b o n1 _ => hk b o (nA b n1)
  have hold : ∀ b o, s.heap.get? b = some o → ∃ o', h'.get? b = some o' := fun b o q => (Classical.em (b = a)).elim (fun z => z ▸ he) fun z => ⟨o, hk b o z q⟩
  ⟨⟨I.to' le ht (fun b h => (I.avs b h).elim (hold b)) (fun b h => (I.ams b h).elim (hold b)) I.len I.nodup I.apart I.off (fun j d b hd hb => (I.cell j d b hd hb).mono le fun o => hk b o (nA b (I.offAt hb))) (I.ttl ht)
      (I.frm.to fun b hb d => ⟨hb, (Classical.em (b = a)).elim (fun z => by rw [z] at d ⊢; exact hdi d) fun z => d.keep fun o => hk b o z⟩), hr le⟩, le, fun b o _ hF q => ⟨o, hk b o (fun z => hF (z ▸ ha)) q, .inl rfl⟩, ht, hold⟩

theorem isCell_same {h h' : Heap} {a c : Addr} {v : Option Value} (hs : Heap.SameBut a h h') (hne : c ≠ a) (x : h.IsCell c v) : h'.IsCell c v := x.imp fun o => And.imp_left (sameBut_keep hs c o hne)

theorem upd_ne {f : Str → Option TV} {x y : Str} {v : TV} (h : y ≠ x) : upd f x v y = f y := if_neg h
theorem upd_eq {f : Str → Option TV} {x : Str} {v u : TV} (h : upd f x v x = some u) : v = u := Option.some.inj ((if_pos rfl).symm.trans h)
theorem kind_ne {x y : Str} {k k' : NameKind} (h : sc.names.lookup x = some k) (h' : sc.names.lookup y = some k') (hk : k ≠ k') : y ≠ x := fun e => hk (Option.some.inj (h.symm.trans (e ▸ h')))

theorem store_ok {cx : Cx} {x : Str} {tv : TV} {v : Value} {A : Around} {E : Value → Shared → Prop} {Q : ES → Prop} {P : Shared → Prop} (n : Now K S0 Av F env cx.sc g es s) (r : Rp K.ad (g.wd Av es.cells s.heap) tv v)
    (h : storeTV cx x tv es Q) (p : PostU K S0 Av F env cx.sc g es s Q P) : wpAny (model K.prog K.w) A (storeName env x v) (fun _ => P) E s := by
  have R := n.env
  refine h.1.elim (fun hl => ?_) fun hl => ?_
  · refine R.ns.elim fun m hm => wpAny_storeName_local (R.kind1 hl nofun) hm.1 (fun h' hn hs => ?_) (by rw [R.kind]; rfl)
    have J := n.setAv (tk := s.toks + 1) (loc' := upd es.loc x tv) R.locF hs (hn.imp fun _ h => h.elim fun _ h => h.elim fun _ h => h.1) (fun _ => .ns hn) (Nat.le_succ _) fun le =>
      ⟨R.kind, R.kinds, R.glob, R.bltn, R.fsub, R.locF, ⟨_, hn, fun y u hy hu => (Classical.em (y = x)).elim (fun e => ⟨v, if_pos e, (upd_eq (e ▸ hu) : tv = u) ▸ r.mono le⟩) fun e => (hm.2 y u hy ((upd_ne e).symm.trans hu)).imp fun _ z => ⟨(if_neg e).trans z.1, z.2.mono le⟩⟩,
        fun y hy => (R.cellF y hy).imp fun a => Exists.imp fun cv => And.imp_right fun z => ⟨isCell_same hs z.2.2.1 z.1, z.2.1, z.2.2.1, fun u hu => (z.2.2.2 u ((upd_ne (kind_ne hl hy nofun)).symm.trans hu)).imp fun _ => And.imp_right (Rp.mono le)⟩,
        fun y hy => (R.freeF y hy).imp fun a => Exists.imp fun cv => And.imp_right fun z => ⟨isCell_same hs (fun e => z.2.2.1 (e ▸ R.locF)) z.1, z.2.1, z.2.2.1, fun u hu => (z.2.2.2 u ((upd_ne (kind_ne hl hy nofun)).symm.trans hu)).imp fun _ => And.imp_right (Rp.mono le)⟩, R.apart⟩
    exact p _ _ g h.2 J.1 J.2
  · refine (R.cellF x hl).elim fun a z => z.elim fun cv z => wpAny_storeName_cell R.kind (R.kind1 hl nofun) z.1 z.2.1 fun h' hn hs => ?_
    have J := n.setAv (tk := s.toks) (loc' := upd es.loc x tv) z.2.2.1 hs (hn.imp fun _ => And.left) (fun d => d.elim fun o d => d.elim fun _ d => d.elim fun _ d => z.2.1.elim fun o' y => absurd (d.2.symm.trans ((congrArg Obj.data (Option.some.inj (d.1.symm.trans y.1))).trans y.2)) nofun) (Nat.le_refl _) fun le =>
      ⟨R.kind, R.kinds, R.glob, R.bltn, R.fsub, R.locF, R.ns.imp fun m hm => ⟨hm.1.imp fun o => Exists.imp fun _ => Exists.imp fun _ => And.imp_left (sameBut_keep hs _ o (Ne.symm z.2.2.2.1)), fun y u hy hu => (hm.2 y u hy ((upd_ne (kind_ne hl hy nofun)).symm.trans hu)).imp fun _ => And.imp_right (Rp.mono le)⟩,
        fun y hy => (Classical.em (y = x)).elim (fun e => by rw [e]; exact ⟨a, some v, z.1, hn, z.2.2.1, z.2.2.2.1, fun u hu => ⟨v, rfl, (upd_eq hu : tv = u) ▸ r.mono le⟩⟩)
          fun e => (R.cellF y hy).imp fun b => Exists.imp fun cv' q => ⟨q.1, isCell_same hs (fun w => e (R.apart y x a hy hl (w ▸ q.1) z.1)) q.2.1, q.2.2.1, q.2.2.2.1, fun u hu => (q.2.2.2.2 u ((upd_ne e).symm.trans hu)).imp fun _ => And.imp_right (Rp.mono le)⟩,
        fun y hy => (R.freeF y hy).imp fun b => Exists.imp fun cv' => And.imp_right fun q => ⟨isCell_same hs (fun w => q.2.2.1 (w ▸ z.2.2.1)) q.1, q.2.1, q.2.2.1, fun u hu => (q.2.2.2 u ((upd_ne (kind_ne hl hy nofun)).symm.trans hu)).imp fun _ => And.imp_right (Rp.mono le)⟩, R.apart⟩
    exact p _ _ g h.2 J.1 J.2
end
end

section
open PySem PySem.W PyProof.Rows

theorem AOk.dec {S0 : Reg} {n : Nat} {hn : Bool} {A : Around} (h : AOk S0 (n + 1) hn A) : AOk S0 n hn A := ⟨Nat.lt_of_succ_lt h.depth, Nat.lt_of_le_of_lt (Nat.add_le_add_left (Nat.mul_le_mul_left 8 (Nat.le_succ n)) _) h.units, h.hand, h.frames⟩
theorem AOk.u {S0 : Reg} {n : Nat} {hn : Bool} {A : Around} (h : AOk S0 n hn A) : A.units < 9000 := Nat.lt_of_le_of_lt (Nat.le_add_right _ _) h.units

section
variable {G : TG} {K : GK} {S0 : Reg} {Av F : Addr → Prop} {env : Env} {sc : Scope} {g g₁ : Gh} {es es₁ : ES} {s s₁ : Shared} {cells : List Cell}

theorem Now.grow (n : Now K S0 Av F env sc g es s) {h' : Heap} (hk : ∀ a o, s.heap.get? a = some o → h'.get? a = some o) {tk : Nat} (ht : s.toks ≤ tk) :
    Now K S0 Av F env sc g es { s with heap := h', toks := tk } ∧ Kp Av F g es.cells s g es.cells { s with heap := h', toks := tk } :=
  have J := n.inv.grow hk ht
  ⟨⟨J.1, n.env.kp J.2⟩, J.2.weak fun _ h => h.elim⟩

/-- a starred argument's items -/
theorem star_ok {x : TV} {v : Value} {xs : List TV} {A : Around} {E : Value → Shared → Prop} {P : List Value → Shared → Prop} (n : Now K S0 Av F env sc g es s) (r : Rp K.ad (g.wd Av es.cells s.heap) x v) (h : seqOfTV es.cells x = some xs) (hl : xs.length ≤ lim)
    (p : ∀ vs s', Now K S0 Av F env sc g es s' → Kp Av F g es.cells s g es.cells s' → RpL K.ad (g.wd Av es.cells s'.heap) xs vs → P vs s') : StarOf (model K.prog K.w) A E v P s := by
  have go : ∀ {us : List Value} {h' : Heap}, RpL K.ad (g.wd Av es.cells s.heap) xs us → (∀ a o, s.heap.get? a = some o → h'.get? a = some o) → P us { s with heap := h' } := fun q hk => p _ _ (n.grow hk (Nat.le_refl s.toks)).1 (n.grow hk (Nat.le_refl s.toks)).2 (RpL.mono (n.grow hk (Nat.le_refl s.toks)).2.le q)
  unfold StarOf notIterableAtAll
  exact (seqOf_inv n.inv r h).elim
    (fun q => q.elim fun a q => q.elim fun us q => q.elim fun m q => by
      rw [q.1]
      exact wpAny_bind (wpAny_specialOf (IsList.of q.2.1).typeIs PySem.F.slot_list_iter.lookup (wpAny_pure ⟨rfl, wpAny_collect_seq a (.inl rfl) q.2.1 rfl rfl (fun h' hk => go q.2.2 hk) (size_le q.2.2.length hl)⟩)))
    fun q => q.elim fun a q => q.elim fun us q => q.elim fun m q => by
      rw [q.1]
      exact wpAny_bind (wpAny_specialOf (IsTup.of q.2.1).typeIs PySem.F.slot_tuple_iter.lookup (wpAny_pure ⟨rfl, wpAny_collect_seq a (.inr rfl) q.2.1 rfl rfl (fun h' hk => go q.2.2 hk) (size_le q.2.2.length hl)⟩))

theorem evL_ok {r : Rec} {k : Nat} {cx : Cx} (hr : SndE K S0 k r.e) (pos : Pos) {A : Around} (hA : AOk S0 k cx.hn A) {E : Value → Shared → Prop} (args : List Expr) {g : Gh} {es : ES} {s : Shared} {Q : List TV → ES → Prop} {P : List Value → Shared → Prop}
    (h : evL r cx args es Q) (n : Now K S0 Av F env cx.sc g es s) (p : PostL K S0 Av F env cx.sc g es s Q P) : wpAny (model K.prog K.w) A (spliced (backTo pos (starEach args env))) P E s := by
  induction args generalizing g es s Q P with
  | nil => exact Calls.spliced_nil (p [] s [] es g h n .refl .nil)
  | cons e rest ih =>
    refine EvA.casesOn (motive := fun e _ => wpAny (model K.prog K.w) A (spliced (backTo pos (starEach (e :: rest) env))) P E s) (show EvA r cx es _ e from h) (fun {e sp} h => ?_) fun {e} he h => ?_
    · refine ks_spliced (hr cx e es _ h A env Av F g s _ _ hA n fun v s' tv es' g' h' n' k' r' => h'.elim fun xs h' => star_ok n' r' h'.1 h'.2.1 fun vs s'' n'' k'' q => ?_)
      exact ih h'.2.2 n'' fun us s₃ tvs es₃ g₃ hQ n₃ k₃ r₃ => p _ _ _ _ _ hQ n₃ ((k'.trans k'').trans k₃) ((RpL.mono k₃.le q).append r₃)
    · rw [he]
      refine Calls.spliced_cons (hr cx e es _ h A env Av F g s _ _ hA n fun v s' tv es' g' h' n' k' r' => ?_)
      exact ih h' n' fun us s₃ tvs es₃ g₃ hQ n₃ k₃ r₃ => p _ _ _ _ _ hQ n₃ (k'.trans k₃) (.cons (r'.mono k₃.le) r₃)

/-- a call's arguments -/
theorem args_ok {r : Rec} {k : Nat} {cx : Cx} (hr : SndE K S0 k r.e) {pos : Pos} {A : Around} (hA : AOk S0 k cx.hn A) {E : Value → Shared → Prop} {f : Value} {args : List Expr} {Q : List TV → ES → Prop} {P : Args → Shared → Prop}
    (hlo : loneOk args = true) (h : evL r cx args es Q) (n : Now K S0 Av F env cx.sc g es s) (p : PostL K S0 Av F env cx.sc g es s Q fun vs s' => P ⟨vs, []⟩ s') : wpAny (model K.prog K.w) A (evalArgs f true (backTo pos (starEach args env)) []) P E s := by
  cases args with
  | nil => exact evalArgs_nil3 (p [] s [] es g h n .refl .nil)
  | cons e rest =>
    have z := evL_ok hr pos hA (e :: rest) (P := fun vs s' => P ⟨vs, []⟩ s') (E := E) h n p
    revert z hlo
    refine EvA.casesOn (motive := fun e _ => loneOk (e :: rest) = true → wpAny (model K.prog K.w) A (spliced (backTo pos (starEach (e :: rest) env))) (fun vs s' => P ⟨vs, []⟩ s') E s → wpAny (model K.prog K.w) A (evalArgs f true (backTo pos (starEach (e :: rest) env)) []) P E s) (show EvA r cx es _ e from h) (fun {e sp} h hlo _ => ?_) fun {e} he h _ z => ?_
    · cases rest with
      | nil => exact ks_lone (hr cx e es _ h A env Av F g s _ _ hA n fun v s' tv es' g' h' n' k' r' => h'.elim fun xs h' => star_ok n' r' h'.1 h'.2.1 fun vs s'' n'' k'' q => p _ _ _ _ _ ((List.append_nil xs) ▸ h'.2.2) n'' (k'.trans k'') q)
      | cons => exact absurd hlo Bool.false_ne_true
    · rw [he] at z ⊢
      exact Calls.evalArgs_plain z
end
end

section
open PySem PySem.W PyProof.Rows

section
variable {G : TG} {K : GK} {S0 : Reg} {Av F : Addr → Prop} {env : Env} {sc : Scope} {g g₁ : Gh} {es es₁ : ES} {s s₁ : Shared} {cells : List Cell}

noncomputable abbrev Kept (M : Model) (h : Heap) (f : Value) : Prop := ∃ k, (k = Keeper.frame ∨ k = Keeper.machine ∨ k = Keeper.boundFrame) ∧ Looks M h (keeperOf f) k

theorem callWith_any {M : Model} {A : Around} {E : Value → Shared → Prop} {f : Value} {first : List Value} {pos : Pos} {Q : Value → Shared → Prop} {args : List (Bool × Sem Value)}
    (h : wpAny M A (evalArgs f true args []) (fun a s₁ => Kept M s₁.heap f ∧ wpAny M A (call f (first ++ a.pos) a.kw) Q E s₁) E s) : wpAny M A (callWith pos f first args []) Q E s := by
  cases hs : args.any (·.1) with
  | true => exact ks_call hs (P := fun h => Kept M h f) (fun h p => p) h
  | false => exact callWith_of (by rw [hs]; rfl) (P := fun h => Kept M h f) (fun h p => p) h

theorem bm_ne (m : String) : (Value.type (bmCls m) != Value.type "method") = true ∧ (Value.type (bmCls m) == Value.type "builtin_function_or_method" || Value.type (bmCls m) == Value.type "method-wrapper") = true := by
  unfold bmCls
  by_cases h : m = "list_iterator.__next__"
  · rw [if_pos h]; decide
  · rw [if_neg h]; decide
theorem kept_bm {M : Model} {h : Heap} {a c : Addr} {m : String} {o : Obj} (e : h.get? a = some o) (hc : o.cls = .type (bmCls m)) (hd : o.data = .fields #[.builtin m, .ref c]) : Kept M h (.ref a) := by
  refine ⟨.machine, .inr (.inl rfl), (Looks.ld (part := none) e).andThen ?_⟩
  obtain ⟨cl, dd, dat, sl⟩ := o
  dsimp only at hc hd
  subst hc hd
  dsimp only
  rw [(bm_ne m).1, if_pos rfl, (bm_ne m).2, if_pos rfl]
  exact Looks.now
/-- what is called by a callTV is kept -/
theorem kept_ok {r : Rec} {cx : Cx} {f : TV} {fv : Value} {args : List TV} {es' : ES} {Q : TV → ES → Prop} (hB : Base G K) (I : Inv K S0 Av g cells s) (rf : Rp K.ad (g.wd Av cells s.heap) f fv) (h : callTV G r cx f args es' Q) : Kept (model K.prog K.w) s.heap fv := by
  refine h.elim (fun z => z.elim fun name z => ?_) fun z => z.elim fun v z => z.elim fun cs z => ?_
  · rw [z.1] at rf
    exact rf.fnE fun a e => (Option.isSome_iff_exists.mp z.2.1).elim fun k hk => keeps_K (hB.keep _ _ _ e hk) _ (I.frag hB)
  · have gk : ∀ u, gOk u = true → Kept (model K.prog K.w) s.heap u := fun u hu => ⟨.machine, .inr (.inl rfl), by cases u <;> first | exact Looks.now | exact absurd hu Bool.false_ne_true⟩
    have z := z.1
    induction z with
    | bound => exact rf.elim fun c z => z.elim fun a z => z.elim fun o z => z.1 ▸ kept_bm z.2.2.1.1 z.2.2.2.1 z.2.2.2.2
    | iter => exact rf.gE (gk _ rf.2)
    | meth => exact rf.gE (gk _ rf.2)
    | fn => exact rf.gE (gk _ rf.2)
    | set => exact rf.gE (gk _ rf.2)
    | type => exact rf.gE (gk _ rf.2)

theorem call_ok {r : Rec} {k : Nat} {cx : Cx} (hB : Base G K) (hr : SndC K S0 k r.c) {A : Around} (hA : AOk S0 k cx.hn A) {E : Value → Shared → Prop} {f : TV} {fv : Value} {args : List TV} {vs : List Value} {Q : TV → ES → Prop} {P : Value → Shared → Prop}
    (h : callTV G r cx f args es Q) (n : Now K S0 Av F env sc g es s) (rf : Rp K.ad (g.wd Av es.cells s.heap) f fv) (ra : RpL K.ad (g.wd Av es.cells s.heap) args vs) (p : PostE K S0 Av F env sc g es s Q P) :
    wpAny (model K.prog K.w) A (call fv vs []) P E s :=
  h.elim (fun z => z.elim fun name z => wpAny_call (hr cx.hn _ args es.cells _ z.2.2 A Av g s E P fv vs hA n.inv (z.1 ▸ rf) ra fun v s' tv cells' g' q i k' r' => p v s' tv { es with cells := cells' } g' q ⟨i, n.env.kp k'⟩ (k'.weak fun _ h => h.elim) r'))
    fun z => z.elim fun v z => z.elim fun cells' z => plain_ok hB hA.hand n.inv rf ra z.1 (n.prim p z.2)

theorem lookE {k m : Str} {v i : String} {l : List (Str × String)} {P : Prop} (h : ((k, v) :: l).lookup m = some i) (h1 : m = k → i = v → P) (h2 : l.lookup m = some i → P) : P := by
  rw [List.lookup_cons] at h
  cases e : m == k with
  | true => rw [e] at h; exact h1 (eq_of_beq e) (Option.some.inj h).symm
  | false => rw [e] at h; exact h2 h

/-- what a method's name finds at a cell -/
theorem methC_case {m : Str} {n : Nat} {fv : TV} (h : methC G cells m cells[n]? = some fv) : (∃ i, fv = .g (.builtin i) ∧ ((∃ xs, cells[n]? = some (.list xs) ∧ methL m = some i) ∨ (∃ kvs b, cells[n]? = some (.dict kvs b) ∧ methD m = some i) ∨ (∃ xs b, cells[n]? = some (.set xs b) ∧ m = "add" ∧ i = "set.add"))) ∨
    ∃ c d kvs fn, fv = .fn fn ∧ cells[n]? = some (.obj c d) ∧ cells[d]? = some (.ns kvs) ∧ lookD kvs m = none ∧ G.meth c m = some fn := by
  cases hc : cells[n]? with
  | none => rw [hc] at h; exact noneE h
  | some c =>
    rw [hc] at h
    cases c with
    | list xs => exact mapE h fun i e1 e2 => .inl ⟨i, e2.symm, .inl ⟨xs, rfl, e1⟩⟩
    | dict kvs b => exact mapE h fun i e1 e2 => .inl ⟨i, e2.symm, .inr (.inl ⟨kvs, b, rfl, e1⟩)⟩
    | set xs b => exact ifE h fun e1 e2 => .inl ⟨_, e2.symm, .inr (.inr ⟨xs, b, rfl, e1, rfl⟩)⟩
    | obj c d =>
      refine bindE h fun kvs e1 h' => ?_
      by_cases e : lookD kvs m = none
      · rw [if_pos e] at h'
        exact mapE h' fun fn e3 e4 => .inr ⟨c, d, kvs, fn, e4.symm, rfl, cellN_inv e1, e, e3⟩
      · rw [if_neg e] at h'; exact noneE h'
    | _ => exact noneE h

/-- what a method's name finds -/
theorem getMethod_ok {ov : TV} {vo : Value} {m : Str} {fv : TV} {pl : Sem Bool} {A : Around} {E : Value → Shared → Prop} {P : Value × List Value → Shared → Prop} (hB : Base G K) (I : Inv K S0 Av g cells s) (r : Rp K.ad (g.wd Av cells s.heap) ov vo)
    (h : methOf G cells ov m = some fv) (p : ∀ f, Rp K.ad (g.wd Av cells s.heap) fv f → P (f, [vo]) s) : wpAny (model K.prog K.w) A (getMethod vo m pl) P E s := by
  cases ov with
  | str x =>
    refine mapE h fun i hi e => ?_
    replace p := p _ (e ▸ Rp.g rfl)
    revert p
    refine r.strE fun t _ p => lookE hi (fun e1 e2 => ?_) fun hi => lookE hi (fun e1 e2 => ?_) fun hi => lookE hi (fun e1 e2 => ?_) fun hi => lookE hi (fun e1 e2 => ?_) fun hi => noneE hi
    · subst e1 e2; with_reducible exact GM.startswith p
    · subst e1 e2; with_reducible exact GM.split p
    · subst e1 e2; with_reducible exact GM.join p
    · subst e1 e2; with_reducible exact GM.of _ (typeIs_str _ _ _) PySem.F.slot_str_translate PySem.F.type_str_translate GM.noRef p
  | ref n =>
    revert p
    refine r.refE fun a ha p => (methC_case h).elim (fun z => z.elim fun i z => ?_) fun z => z.elim fun c z => z.elim fun d z => z.elim fun kvs z => z.elim fun fn z => (I.instAt z.2.1 z.2.2.1 ha).elim fun dx q => q.2.elim fun C q => q.elim fun es' q => q.elim fun k q => (hB.meth _ C m fn q.ad z.2.2.2.2).elim fun f D => ?_
    · replace p := p _ (z.1 ▸ Rp.g rfl)
      refine z.2.elim (fun y => y.elim fun xs y => (I.listAt y.1 ha).elim fun us q => q.elim fun k q => ?_) fun y => y.elim (fun y => y.elim fun kvs y => y.elim fun b y => (I.dictAt y.1 ha).elim fun l q => ?_) fun y => y.elim fun xs y => y.elim fun b y => ?_
      · have hT : s.TypeIs (.ref a) "list" := ⟨_, q.1, rfl⟩
        have hd : ∀ b, Value.ref a = .ref b → ∃ ob, s.heap.get? b = some ob ∧ ob.dict = none := fun b z => ⟨_, (Value.ref.inj z) ▸ q.1, rfl⟩
        refine lookE y.2 (fun e1 e2 => ?_) fun hi => lookE hi (fun e1 e2 => ?_) fun hi => lookE hi (fun e1 e2 => ?_) fun hi => lookE hi (fun e1 e2 => ?_) fun hi => noneE hi
        · subst e1 e2; with_reducible exact getMethod_builtin hT PySem.F.plainAttrs_list PySem.F.slot_list_append PySem.F.type_list_append hd p
        · subst e1 e2; with_reducible exact getMethod_builtin hT PySem.F.plainAttrs_list PySem.F.slot_list_extend PySem.F.type_list_extend hd p
        · subst e1 e2; with_reducible exact getMethod_builtin hT PySem.F.plainAttrs_list PySem.F.slot_list_clear PySem.F.type_list_clear hd p
        · subst e1 e2; with_reducible exact getMethod_builtin hT PySem.F.plainAttrs_list PySem.F.slot_list_pop PySem.F.type_list_pop hd p
      · refine lookE y.2 (fun e1 e2 => ?_) fun hi => lookE hi (fun e1 e2 => ?_) fun hi => noneE hi
        · subst e1 e2; with_reducible exact getMethod_builtin q.1.typeIs PySem.F.plainAttrs_dict PySem.F.slot_dict_get PySem.F.type_dict_get q.1.mapOf.noDict p
        · subst e1 e2; with_reducible exact getMethod_builtin q.1.typeIs PySem.F.plainAttrs_dict PySem.F.slot_dict_values PySem.F.type_dict_values q.1.mapOf.noDict p
      · have hS := I.setAt y.1 ha
        obtain ⟨_, e1, e2⟩ := y
        subst e1 e2
        with_reducible exact getMethod_builtin hS.typeIs PySem.F.plainAttrs_set PySem.F.slot_set_add PySem.F.type_set_add hS.noDict p
    · have D' := D.2
      refine method_fn (I.frag hB) q.inst (plainGet_of D'.plain).1 (plainGet_of D'.plain).2 D'.find D'.fn ?_ (p _ (z.1 ▸ .fn D.1))
      show (lookIn m (dictOf es' k)).map _ = _
      rw [lookIn_dict]
      exact (nsR_get m q.ns).elim (fun y => y.elim fun _ y => y.elim fun _ y => noneE (z.2.2.2.1.symm.trans y.1)) fun y => y.2 ▸ rfl
  | _ => exact noneE h

/-- a bound method of an instance -/
theorem boundMethod_ok {ov : TV} {vo : Value} {m : Str} {fv : TV} {A : Around} {E : Value → Shared → Prop} {P : Value → Shared → Prop} (hB : Base G K) (n : Now K S0 Av F env sc g es s) (r : Rp K.ad (g.wd Av es.cells s.heap) ov vo)
    (h : methOf G es.cells ov m = some fv) (hnb : isBuiltinCallee fv = false)
    (p : ∀ q f s', Now K S0 Av F env sc g es s' → Kp Av F g es.cells s g es.cells s' → (g.wd Av es.cells s'.heap).V q (methodObj (.ref f) vo) → Rp K.ad (g.wd Av es.cells s'.heap) fv (.ref f) → fnIn K.fr f = true → P (.ref q) s') :
    wpAny (model K.prog K.w) A (getAttr vo m true) P E s := by
  have I := n.inv
  have X : K.fr.In s.heap := I.frag hB
  cases ov with
  | str x => exact mapE h fun i _ e => absurd (e ▸ hnb) nofun
  | ref j =>
    revert p
    refine r.refE fun a ha p => (methC_case h).elim (fun z => z.elim fun i z => absurd (z.1 ▸ hnb) nofun) fun z => z.elim fun c z => z.elim fun d z => z.elim fun kvs z => z.elim fun fn z => (I.instAt z.2.1 z.2.2.1 ha).elim fun dx q => q.2.elim fun C q => q.elim fun es' q => q.elim fun k q => (hB.meth _ C m fn q.ad z.2.2.2.2).elim fun f D => ?_
    have D' := D.2
    refine get_bind X q.inst (plainGet_of D'.plain).1 (findObj_fn D'.has D'.find D'.get D'.taken D'.copied ?_) (plainGet_of D'.plain).2 (wpAny_call (fn_get (s := { s with toks := s.toks + 1 }) X D'.fn (handed_on rfl ?_)))
    · show lookIn m (dictOf es' k) = _
      rw [lookIn_dict]
      exact (nsR_get m q.ns).elim (fun y => y.elim fun _ y => y.elim fun _ y => noneE (z.2.2.2.1.symm.trans y.1)) fun y => y.2
    · have J := n.grow (h' := s.heap.push (methodObj (.ref f) (.ref a))) (fun b o q => Heap.get?_push_of_some _ q) (Nat.le_succ s.toks)
      exact p _ f _ J.1 J.2 (I.newV (get_size _) (Heap.get?_push_size _ rfl)) (z.1 ▸ .fn D.1) D'.isfn
  | _ => exact noneE h
end
end

section
open PySem PySem.W PyProof.Rows

section
variable {G : TG} {K : GK} {S0 : Reg} {Av F : Addr → Prop} {env : Env} {sc : Scope} {g g₁ : Gh} {es es₁ : ES} {s s₁ : Shared} {cells : List Cell}

theorem const_ok {c : Const} {tv : TV} {k : Nat} {pos : Pos} {A : Around} {E P : Value → Shared → Prop} (I : Inv K S0 Av g cells s) (h : constTV c = some tv) (p : PrimP K S0 Av g cells s cells tv P) :
    wpAny (model K.prog K.w) A (eval (.Constant c k pos) env) P E s := by
  cases c with
  | none => exact wpAny_Constant_none (p.here I (someE h .none))
  | bool => exact wpAny_Constant_bool (p.here I (someE h (.bool _)))
  | int => exact wpAny_Constant_int (p.tok I (Nat.le_succ _) (someE h (.int _ _)))
  | str x => exact ifE h fun hx e => wpAny_Constant_str ((e ▸ p).str I hx)
  | _ => exact noneE h

/-- a new cell from an expression -/
theorem Now.primCell (n : Now K S0 Av F env sc g es s) {c : Cell} {Q : TV → ES → Prop} {P : Value → Shared → Prop} (h : PostE K S0 Av F env sc g es s Q P) (q : Q (.ref es.cells.length) { es with cells := es.cells ++ [c] }) :
    PrimP K S0 Av g es.cells s (es.cells ++ [c]) (.ref es.cells.length) P := n.prim h q

theorem dict1_ok {k : Str} {i : Int} {k1 k2 : Nat} {p1 p2 pos : Pos} {A : Around} {E P : Value → Shared → Prop} (hok : PyData.strOk k = true) (I : Inv K S0 Av g cells s) (p : PrimP K S0 Av g cells s (cells ++ [.dict [(k, .int i)] false]) (.ref cells.length) P) :
    wpAny (model K.prog K.w) A (eval (.Dict [some (.Constant (.str k) k1 p1)] [.Constant (.int i) k2 p2] pos) env) P E s := by
  refine wpAny_Dict_pairs (knd := strKind K.prog K.w) (pairs := [(eval (.Constant (.str k) k1 p1) env, do let x ← eval (.Constant (.int i) k2 p2) env; standAt pos; pure x)]) rfl (by simp) (by simp) ?_
  refine evalPairs_cons (wpAny_Constant_str (wpAny_bind (wpAny_Constant_int (wpAny_bind (wpAny_standAt (wpAny_pure (evalPairs_nil ?_)))))))
  refine ⟨[(k, .int i (s.toks + 1))], ⟨strKind_is .., rfl, trivial⟩, Heap.DictOf.new .., fun h' hd hs => (Heap.dictOf_iff.mp hd).elim fun o' z => ?_⟩
  have J := I.newCell (c := .dict [(k, .int i)] false) (h' := h') (tk := s.toks + 1 + 1 + 1) (fun a o e => sameBut_keep hs a o (Nat.ne_of_lt (Heap.lt_size e)) (Heap.get?_push_of_some _ e)) (Nat.le_add_right _ 3) (get_size _) z.1 (fun le => ⟨_, o', z.1, z.2, .cons ⟨⟨rfl, hok⟩, .int _ _⟩ .nil⟩)
  exact p _ _ _ J.1 J.2 (.ref (by show (g.am ++ [_])[cells.length]? = _; rw [← I.len]; exact List.getElem?_concat_length))

/-- a display's lists, frozen: what was a cell's own is the display's -/
noncomputable def FrzR (K : GK) (S0 : Reg) (Av : Addr → Prop) (g : Gh) (cells : List Cell) (s : Shared) (cells' : List Cell) (R : Wd → Prop) : Prop := Inv K S0 Av g cells' s ∧ Kp Av NoF g cells s g cells' s ∧ R (g.wd Av cells' s.heap)
theorem frz_ok (I : Inv K S0 Av g cells s) {x : TV} {v : Value} (r : Rp K.ad (g.wd Av cells s.heap) x v) : FrzR K S0 Av g cells s (frz x cells).2 fun W => Rp K.ad W (frz x cells).1 v := by
  cases x with
  | ref n =>
    show FrzR K S0 Av g cells s (frzC n cells (cellL cells[n]?)).2 fun W => Rp K.ad W (frzC n cells (cellL cells[n]?)).1 v
    cases hc : cellL cells[n]? with
    | none => exact ⟨I, .refl, r⟩
    | some xs => exact r.refE fun a e => (I.listAt (cellL_inv hc) e).elim fun us z => z.elim fun m z =>
        have J := I.setCell (c' := .dead) (h' := s.heap) (tk := s.toks) (cellL_inv hc) e rfl (fun _ _ _ e => e) z.1 (Nat.le_refl _) (fun _ => trivial)
        ⟨J.1, J.2, .list (I.killed e z.1) (RpL.mono J.2.le z.2)⟩
  | _ => exact ⟨I, .refl, r⟩
theorem frzs_ok {xs : List TV} {vs : List Value} {cells : List Cell} (I : Inv K S0 Av g cells s) (r : RpL K.ad (g.wd Av cells s.heap) xs vs) : FrzR K S0 Av g cells s (frzs xs cells).2 fun W => RpL K.ad W (frzs xs cells).1 vs := by
  induction xs generalizing vs cells with
  | nil => exact ⟨I, .refl, r⟩
  | cons x xs ih => exact r.consE fun v us r q => have J := frz_ok I r; have H := ih J.1 (RpL.mono J.2.1.le q); ⟨H.1, J.2.1.trans H.2.1, .cons (J.2.2.mono H.2.1.le) H.2.2⟩
end
end

section
open PySem PySem.W PyProof.Rows

section
variable {G : TG} {K : GK} {S0 : Reg} {Av F : Addr → Prop} {env : Env} {sc : Scope} {g g₁ : Gh} {es es₁ : ES} {s s₁ : Shared} {cells : List Cell}

/-- comprehensions alone -/
noncomputable def CompOk (K : GK) (S0 : Reg) (k : Nat) (r : Rec) : Prop := ∀ cx elt gens sc' pos es Q, evComp r cx elt gens sc' es Q → ∀ A env Av F g s E P, AOk S0 k cx.hn A → Now K S0 Av F env cx.sc g es s → PostE K S0 Av F env cx.sc g es s Q P → wpAny (model K.prog K.w) A (eval (.ListComp elt gens sc' pos) env) P E s

theorem slice_sub {l u st : Option Expr} {p : Pos} {o i : Value} : ∃ ops, subscripted (.Slice l u st p) false o i = operate ops (getItem o i) := by
  cases st
  · exact ⟨_, rfl⟩
  · exact ⟨_, rfl⟩

theorem part_ok {r : Rec} {k : Nat} {cx : Cx} (hr : SndE K S0 k r.e) {A : Around} (hA : AOk S0 k cx.hn A) {E : Value → Shared → Prop} {o : Option Expr} {Q : TV → ES → Prop} {P : Value → Shared → Prop}
    (h : optE r cx o es Q) (n : Now K S0 Av F env cx.sc g es s) (p : PostE K S0 Av F env cx.sc g es s Q P) : wpAny (model K.prog K.w) A (evalPart o env) P E s := by
  cases o with
  | none => exact wpAny_pure (p .none s .none es g h n .refl .none)
  | some e => exact hr cx e es _ h A env Av F g s _ _ hA n p

theorem attr_ok {o x : TV} {a : Str} {vo : Value} {A : Around} {E P : Value → Shared → Prop} (hB : Base G K) (I : Inv K S0 Av g cells s) (ro : Rp K.ad (g.wd Av cells s.heap) o vo)
    (h : attrTV G cells o a = some x) (p : PrimP K S0 Av g cells s cells x P) : wpAny (model K.prog K.w) A (getAttr vo a true) P E s := by
  refine bindE h fun n hn h => ?_
  replace ro : Rp K.ad (g.wd Av cells s.heap) (.ref n) vo := refOf_inv hn ▸ ro
  cases hc : cells[n]? with
  | none => rw [hc] at h; exact noneE h
  | some c =>
    rw [hc] at h
    cases c with
    | obj c d =>
      refine bindE h fun kvs hd h' => ?_
      by_cases e : G.attrOk c a = true
      · rw [if_pos e] at h'; exact get_obj hB I hc (cellN_inv hd) ro e h' p
      · rw [if_neg e] at h'; exact noneE h'
    | slots c vs => exact get_slot hB I hc ro h p
    | list xs =>
      refine ifE h fun e1 e2 => ?_
      subst e1 e2
      exact ro.refE fun b e => (I.listAt hc e).elim fun us z => z.elim fun m z => getattr_ap z.1 (p.new I (Nat.le_succ _) rfl fun W le hV => .bm (le.am e) hV rfl rfl)
    | iter i j =>
      refine ifE h fun e1 e2 => ?_
      subst e1 e2
      exact ro.refE fun b e => (I.cell n _ b hc e).elim fun l z => getattr_nx z.1 (p.new I (Nat.le_succ _) rfl fun W le hV => .bm (le.am e) hV rfl rfl)
    | _ => exact noneE h

theorem call_ok' {r : Rec} {k : Nat} {cx : Cx} (hB : Base G K) (hr : Snd K S0 k r) {A : Around} (hA : AOk S0 k cx.hn A) {E : Value → Shared → Prop} {args : List Expr} {pos : Pos} {Q : TV → ES → Prop} {P : Value → Shared → Prop} {fv : Value} {ft : TV} {first : List Value} {firsts : List TV}
    (hlo : loneOk args = true) (h : evL r cx args es fun vs es => callTV G r cx ft (firsts ++ vs) es Q) (n : Now K S0 Av F env cx.sc g es s) (rf : Rp K.ad (g.wd Av es.cells s.heap) ft fv) (r1 : RpL K.ad (g.wd Av es.cells s.heap) firsts first) (p : PostE K S0 Av F env cx.sc g es s Q P) :
    wpAny (model K.prog K.w) A (callWith pos fv first (backTo pos (starEach args env)) []) P E s :=
  callWith_any (args_ok hr.e hA hlo h n fun vs s2 tvs es2 g2 h2 n2 k2 r2 => ⟨kept_ok hB n2.inv (rf.mono k2.le) h2, call_ok hB hr.c hA h2 n2 (rf.mono k2.le) ((RpL.mono k2.le r1).append r2) (p.on k2)⟩)

theorem plain_callee {hn : Bool} {f v : TV} {args : List TV} {cells' : List Cell} (h : Plain hn cells f args v cells') : isBuiltinCallee f = true := by induction h <;> rfl
theorem callM_ok {r : Rec} {k : Nat} {cx : Cx} (hB : Base G K) (hr : Snd K S0 k r) {A : Around} (hA : AOk S0 k cx.hn A) {E : Value → Shared → Prop} {o : Expr} {m : Str} {apos pos : Pos} {args : List Expr} {Q : TV → ES → Prop} {P : Value → Shared → Prop}
    (hs : ∀ env whole, attributeBase o m env whole = whole) (hst : ∀ env, (backTo pos (starEach args env)).any (·.1) = args.any isStar) (hlo : loneOk args = true) (h : r.e cx o es fun ov es => opt (methOf G es.cells ov m) fun fv => if args.any isStar = true then isBuiltinCallee fv = false ∧ evL r cx args es fun vs es => callTV G r cx fv (ov :: vs) es Q
      else args.length < 29 ∧ apos.endLine = pos.line ∧ evL r cx args es fun vs es => callTV G r cx fv (ov :: vs) es Q)
    (n : Now K S0 Av F env cx.sc g es s) (p : PostE K S0 Av F env cx.sc g es s Q P) : wpAny (model K.prog K.w) A (eval (.Call (.Attribute o m apos) args [] pos) env) P E s := by
  rw [arm_eval_Call, hs]
  refine wpAny_bind (hr.e cx o es _ h A env Av F g s _ _ hA n fun vo s1 ov es1 g1 h1 n1 k1 r1 => h1.elim fun ft h1 => ?_)
  refine wpAny_bind (wpAny_standAt ?_)
  have hform : methodCallForm (args.length + ([] : List Keyword).length) (backTo pos (starEach args env)) (backToKw pos (keywordEach [] env)) = (!args.any isStar && decide (args.length < 30)) := by
    unfold methodCallForm
    rw [← hst env, List.not_any_eq_all_not]
    exact congrArg (· && _) (Bool.and_true _)
  unfold methodCall
  rw [hform]
  by_cases hstar : args.any isStar = true
  · obtain ⟨hm, h1⟩ := h1
    rw [if_pos hstar] at h1
    rw [hstar]
    refine wpAny_bind (wpAny_holding ?_)
    show wpAny _ A (getAttr vo m true >>= fun x => pure (x, [])) _ E s1
    refine wpAny_bind (boundMethod_ok hB n1 r1 hm h1.1 fun q f s2 n2 k2 hV hf hfn => wpAny_pure ?_)
    refine wpAny_bind (wpAny_of_eq (a := pos) (by unfold methodCallPos; rfl) ?_)
    refine callWith_any (args_ok hr.e hA hlo h1.2 n2 fun vs s3 tvs es3 g3 h3 n3 k3 r3 => ?_)
    have hq := (k3.le.v _ _ hV).1
    exact ⟨keeps_M hfn _ ⟨hq, n3.inv.frag hB⟩, wpAny_call (method_call hq (h3.elim (fun z => z.elim fun x z => hr.c cx.hn _ _ es3.cells _ z.2.2 A Av g3 s3 E P (.ref f) (vo :: vs) hA n3.inv (z.1 ▸ hf.mono k3.le) (.cons (r1.mono (k2.le.trans k3.le)) r3) fun v s4 tv cells' g4 q4 i4 k4 r4 =>
      p v s4 tv { es3 with cells := cells' } g4 q4 ⟨i4, n3.env.kp k4⟩ (((k1.trans k2).trans k3).trans (k4.weak fun _ h => h.elim)) r4) fun z => z.elim fun _ z => z.elim fun _ z => absurd (h1.1.symm.trans (plain_callee z.1)) nofun))⟩
  · obtain ⟨hm, h1⟩ := h1
    rw [if_neg hstar] at h1
    rw [show (!args.any isStar && decide (args.length < 30)) = true by rw [eq_false_of_ne_true hstar, decide_eq_true (Nat.lt_succ_of_lt h1.1)]; rfl]
    refine wpAny_bind (wpAny_holding ?_)
    show wpAny _ A (getMethod vo m _) _ E s1
    refine getMethod_ok hB n1.inv r1 hm fun f hf => ?_
    dsimp only
    refine wpAny_bind (wpAny_of_eq (a := pos) (by unfold methodCallPos; simp [h1.2.1]) ?_)
    exact call_ok' (firsts := [ov]) hB hr hA hlo h1.2.2 n1 hf (.one r1) (p.on k1)

theorem stepE_ok {r : Rec} {k : Nat} (hB : Base G K) (hr : Snd K S0 k r) (hc : CompOk K S0 k r) : SndE K S0 k (StepE G r) := by
  intro cx e es Q h A env Av F g s E P hA n p
  induction h with
  | const hx q => exact const_ok n.inv hx (n.prim' p q)
  | name hx q => exact name_ok hB n hx (n.prim' p q)
  | named h => exact wpAny_NamedExpr (hr.e cx _ es _ h A env Av F g s _ _ hA n fun v s1 tv es1 g1 h1 n1 k1 r1 => PySem.wpAny_assign_Name (store_ok n1 r1 h1 fun s2 es2 g2 q n2 k2 => p v s2 tv es2 g2 q n2 (k1.trans k2) (r1.mono k2.le)))
  | bin h => exact wpAny_BinOp (hr.e cx _ es _ h A env Av F g s _ _ hA n fun v s1 tv es1 g1 h1 n1 k1 r1 => hr.e cx _ es1 _ h1 A env Av F g1 s1 _ _ hA n1 fun u s2 tu es2 g2 h2 n2 k2 r2 => h2.elim fun x h2 => bin_ok n2.inv (r1.mono k2.le) r2 h2.1 (n2.prim' (p.on (k1.trans k2)) h2.2))
  | neg h => exact wpAny_UnaryOp (hr.e cx _ es _ h A env Av F g s _ _ hA n fun v s1 tv es1 g1 h1 n1 k1 r1 => h1.elim fun i h1 => (show Rp _ _ (.int i) v from h1.1 ▸ r1).intE fun t => PySem.P.neg_int ((n1.prim' (p.on k1) h1.2).tok n1.inv (Nat.le_succ _) (.int _ _)))
  | ifexp h =>
    refine wpAny_IfExp (hr.t cx _ es _ h A env Av F g s _ _ hA n fun b s1 es1 g1 h1 n1 k1 => ?_)
    cases b
    · exact hr.e cx _ es1 _ h1 A env Av F g1 s1 _ _ hA n1 (p.on k1)
    · exact hr.e cx _ es1 _ h1 A env Av F g1 s1 _ _ hA n1 (p.on k1)
  | list h =>
    refine wpAny_List (evL_ok hr.e _ hA _ h n fun vs s1 tvs es1 g1 h1 n1 k1 r1 => ⟨r1.length ▸ lim_le h1.1, ?_⟩)
    have J := frzs_ok n1.inv r1
    exact PrimP.new (P := P) (fun v g' s' i' k' r' => (n1.prim (cells' := (frzs tvs es1.cells).2) (p.on k1) h1.2) v g' s' i' (J.2.1.trans k') r') J.1 (o := listObj vs 0) (Nat.le_refl _) rfl fun W le hV => .list hV (RpL.mono le J.2.2)
  | tuple h => exact wpAny_Tuple (evL_ok hr.e _ hA _ h n fun vs s1 tvs es1 g1 h1 n1 k1 r1 => ⟨r1.length ▸ lim_le h1.1, (n1.prim' (p.on k1) h1.2).new n1.inv (o := tupObj vs 0) (Nat.le_refl _) rfl fun W le hV => .tup hV (RpL.mono le r1)⟩)
  | dict0 h =>
    refine wpAny_Dict_empty ((n.primCell (c := .dict [] false) p h).newCell n.inv rfl (Nat.le_refl _) fun W h a le e => (Heap.dictOf_iff.mp (Heap.DictOf.new (knd := strKind K.prog K.w) s.heap)).elim fun o z => ⟨[], _, e, ?_, .nil⟩)
    rw [Option.some.inj ((Heap.get?_push_size _ rfl).symm.trans z.1)]
    exact z.2
  | dict1 hk h => exact dict1_ok hk n.inv (n.primCell p h)
  | comp h => exact hc cx _ _ _ _ es Q h A env Av F g s E P hA n p
  | @joined c k' p0 p' _ hx q => exact const_ok (k := k') (pos := p0) n.inv hx (n.prim' p q)
  | cmp hm h => exact wpAny_Compare1 (hr.e cx _ es _ h A env Av F g s _ _ hA n fun v s1 tv es1 g1 h1 n1 k1 r1 => hr.e cx _ es1 _ h1 A env Av F g1 s1 _ _ hA n1 fun u s2 tu es2 g2 h2 n2 k2 r2 => h2.elim fun x h2 => cmp_ok hB hA.u n2.inv (r1.mono k2.le) r2 h2.1 (n2.prim' (p.on (k1.trans k2)) h2.2)) hm
  | or h =>
    refine wpAny_Or2 (hr.e cx _ es _ h A env Av F g s _ _ hA n fun v s1 tv es1 g1 h1 n1 k1 r1 => h1.elim fun b h1 => truth_ok hB n1.inv r1 h1.1 fun g2 s2 i2 k2 => ?_)
    have n2 : Now K S0 Av F env cx.sc g2 es1 s2 := ⟨i2, n1.env.kp k2⟩
    have k2' : Kp Av F g1 es1.cells s1 g2 es1.cells s2 := k2.weak fun _ h => h.elim
    cases b
    · exact hr.e cx _ es1 _ h1.2 A env Av F g2 s2 _ _ hA n2 (p.on (k1.trans k2'))
    · exact p v s2 tv es1 g2 h1.2 n2 (k1.trans k2') (r1.mono k2.le)
  | sub h =>
    refine Subscript_ (hr.e cx _ es _ h A env Av F g s _ _ hA n fun vo s1 o es1 g1 h1 n1 k1 r1 => ?_)
    induction h1 with
    | slice h1 =>
      refine wpAny_Slice (part_ok hr.e hA h1 n1 fun vl s2 tl es2 g2 h2 n2 k2 r2 => part_ok hr.e hA h2 n2 fun vu s3 tu es3 g3 h3 n3 k3 r3 => part_ok hr.e hA h3 n3 fun vst s4 tst es4 g4 h4 n4 k4 r4 => h4.elim fun x h4 => ?_)
      exact slice_sub.elim fun ops hops => slice_ok n4.inv (r1.mono ((k2.trans k3).trans k4).le) (r2.mono (k3.trans k4).le) (r3.mono k4.le) r4 h4.1 (n4.prim' (p.on (((k1.trans k2).trans k3).trans k4)) h4.2) hops
    | item hns h1 => exact hr.e cx _ es1 _ h1 A env Av F g1 s1 _ _ hA n1 fun vi s2 ti es2 g2 h2 n2 k2 r2 => h2.elim fun x h2 => (item_ok (A := A) (E := E) n2.inv (r1.mono k2.le) r2 h2.1 (n2.prim' (p.on (k1.trans k2)) h2.2)).elim fun T z => z.elim fun id z => tail_any z.1 z.2.1 z.2.2 (hns _ _)
  | attr hs h =>
    rw [arm_eval_Attribute, hs]
    refine wpAny_bind (hr.e cx _ es _ h A env Av F g s _ _ hA n fun vo s1 o es1 g1 h1 n1 k1 r1 => h1.elim fun x h1 => ?_)
    exact wpAny_bind (wpAny_standAt (wpAny_bind (wpAny_holding (attr_ok hB n1.inv r1 h1.1 fun v g2 s2 i2 k2 r2 => wpAny_bind (wpAny_letTemporaryGo (wpAny_pure ((n1.prim' (p.on k1) h1.2) v g2 s2 i2 k2 r2)))))))
  | call hf hlo h => exact Call_ (hr.e cx _ es _ h A env Av F g s _ _ hA n fun fv s1 ft es1 g1 h1 n1 k1 r1 => call_ok' (firsts := []) hB hr hA hlo h1 n1 r1 .nil (p.on k1)) (hf env)
  | callM hs hst hlo h => exact callM_ok hB hr hA hs hst hlo h n p
end
end

section
open PySem PySem.W PyProof.Rows

section
variable {G : TG} {K : GK} {S0 : Reg} {Av F : Addr → Prop} {env : Env} {sc : Scope} {g g₁ : Gh} {es es₁ : ES} {s s₁ : Shared} {cells : List Cell}

theorem allTrue_ok {r : Rec} {k : Nat} {cx : Cx} (hr : SndT K S0 k r.t) {A : Around} (hA : AOk S0 k cx.hn A) {E : Value → Shared → Prop} {op : BoolOp} (vs : List Expr) {g : Gh} {es : ES} {s : Shared} {Q : Bool → ES → Prop} {P : Bool → Shared → Prop}
    (h : evBoolT r cx op vs es Q) (n : Now K S0 Av F env cx.sc g es s) (p : PostT K S0 Av F env cx.sc g es s Q P) : wpAny (model K.prog K.w) A (allTrue op vs env) P E s := by
  induction vs generalizing g es s with
  | nil =>
    rw [arm_allTrue_nil]
    cases op
    · exact wpAny_pure (p _ s es g h n .refl)
    · exact wpAny_pure (p _ s es g h n .refl)
  | cons e rest ih =>
    rw [arm_allTrue_cons]
    refine wpAny_bind (hr cx e es _ h A env Av F g s _ _ hA n fun b s1 es1 g1 h1 n1 k1 => ?_)
    have no : evBoolT r cx op rest es1 Q → wpAny (model K.prog K.w) A (allTrue op rest env) P E s1 := fun h1 => ih h1 n1 (p.on k1)
    cases op <;> cases b
    · exact wpAny_pure (p _ s1 es1 g1 h1 n1 k1)
    · exact no h1
    · exact no h1
    · exact wpAny_pure (p _ s1 es1 g1 h1 n1 k1)

theorem stepT_ok {r : Rec} {k : Nat} (hB : Base G K) (hr : Snd K S0 k r) (hc : CompOk K S0 k r) : SndT K S0 k (StepT G r) := by
  intro cx e es Q h A env Av F g s E P hA n p
  induction h with
  | not h => exact wpAny_isTrue_Not (hr.t cx _ es _ h A env Av F g s _ _ hA n fun b s1 es1 g1 h1 n1 k1 => p _ s1 es1 g1 h1 n1 k1)
  | boolop h => exact wpAny_isTrue_BoolOp (allTrue_ok hr.t hA _ h n p)
  | cmp hm h =>
    exact wpAny_isTrue_Compare1 (hr.e cx _ es _ h A env Av F g s _ _ hA n fun v s1 tv es1 g1 h1 n1 k1 r1 => hr.e cx _ es1 _ h1 A env Av F g1 s1 _ _ hA n1 fun u s2 tu es2 g2 h2 n2 k2 r2 => h2.elim fun x h2 => cmp_ok hB hA.u n2.inv (r1.mono k2.le) r2 h2.1 fun v3 g3 s3 i3 k3 r3 =>
      r3.boolE (wpAny_truthy_bool (p x s3 es2 g3 h2.2 ⟨i3, n2.env.kp k3⟩ ((k1.trans k2).trans (k3.weak fun _ h => h.elim))))) hm
  | plain hp h =>
    rw [hp]
    exact wpAny_bind (stepE_ok hB hr hc cx _ es _ h A env Av F g s _ _ hA n fun v s1 tv es1 g1 h1 n1 k1 r1 => h1.elim fun b h1 => wpAny_bind (wpAny_standAt (wpAny_holding (truth_ok hB n1.inv r1 h1.1 (n1.primB (p.on k1) h1.2)))))
end
end

section
open PySem PySem.W PyProof.Rows

section
variable {G : TG} {K : GK} {S0 : Reg} {Av Av' F : Addr → Prop} {env : Env} {sc : Scope} {g g₁ : Gh} {es es₁ : ES} {s s₁ : Shared} {cells : List Cell} {h' : Heap} {tk : Nat}

/-- a frame of the stack -/
noncomputable def Frame (S0 : Reg) (a : Addr) : Prop := ∃ e ∈ S0.fr, e.frame = some a

theorem Inv.frameAt (I : Inv K S0 Av g cells s) {a : Addr} (h : Frame S0 a) : Av a ∧ DictAt s.heap a := h.elim fun e z => (I.frm e z.1).2.elim fun L y => Option.some.inj (y.1.symm.trans z.2) ▸ y.2
theorem Inv.frameAv (I : Inv K S0 Av g cells s) {a : Addr} (h : Frame S0 a) : Av a := (I.frameAt h).1

/-- what is set apart changes -/
theorem Inv.reAv (I : Inv K S0 Av g cells s) (hV : ∀ a o, ¬ Av a → s.heap.get? a = some o → h'.get? a = some o ∧ ¬ Av' a) (hA : ∀ a, Av' a → ∃ o, h'.get? a = some o) (hF : ∀ a, Av a → DictAt s.heap a → Frame S0 a → Av' a ∧ DictAt h' a) (ht : s.toks ≤ tk) :
    Inv K S0 Av' g cells { s with heap := h', toks := tk } ∧ (g.wd Av cells s.heap).Le (g.wd Av' cells h') :=
  have le : (g.wd Av cells s.heap).Le (g.wd Av' cells h') := ⟨fun a o z => ⟨(hV a o z.2.1 z.1).1, (hV a o z.2.1 z.1).2, z.2.2⟩, id, fun _ _ => id⟩
  ⟨I.to' le ht hA (fun a e => (I.ams a e).imp fun o q => (hV a o (I.off a e) q).1) I.len I.nodup I.apart (fun a e => (I.ams a e).elim fun o q => (hV a o (I.off a e) q).2) (fun i c a hc ha => (I.cell i c a hc ha).mono le fun o e => (hV a o (I.offAt ha) e).1) (I.ttl ht)
    fun e he => (I.frm e he).imp_right fun z => z.imp fun L y => ⟨y.1, hF L y.2.1 y.2.2 ⟨e, he, y.1⟩⟩, le⟩

/-- a place that no name of the frame reaches -/
noncomputable def Off (S0 : Reg) (env : Env) (sc : Scope) (I : Addr) : Prop := (∀ x, sc.names.lookup x = some .free → env.cells.lookup x ≠ some I) ∧ ¬ Frame S0 I

theorem DictAt.there {h : Heap} {a : Addr} (d : DictAt h a) : h.get? a ≠ none := fun e => d.elim fun _ d => d.elim fun _ d => d.elim fun _ z => noneE (e.symm.trans z.1)
theorem Inv.noFrame (I : Inv K S0 Av g cells s) {a : Addr} (h : s.heap.get? a = none) : ¬ Frame S0 a := fun f => (I.frameAt f).2.there h
/-- a free name's cell -/
theorem EnvR.freeAt {ad : Str → Option Addr} {W : Wd} {loc : Str → Option TV} {h : Heap} (R : EnvR ad W Av F env sc loc h) {x : Str} {a : Addr} (hx : sc.names.lookup x = some .free) (e : env.cells.lookup x = some a) : Av a ∧ h.get? a ≠ none :=
  (R.freeF x hx).elim fun b z => z.elim fun _ z => Option.some.inj (z.1.symm.trans e) ▸ ⟨z.2.2.1, fun q => z.2.1.elim fun _ y => noneE (q.symm.trans y.1)⟩
theorem Off.fresh (n : Now K S0 Av F env sc g es s) {I : Addr} (h : s.heap.get? I = none) : Off S0 env sc I := ⟨fun _ hx e => (n.env.freeAt hx e).2 h, n.inv.noFrame h⟩

/-- a place that is set apart, and no frame's, changes -/
theorem Now.setI (n : Now K S0 Av F env sc g es s) {I : Addr} (hI : Av I) (hF : ¬ F I) (off : Off S0 env sc I) (hs : Heap.SameBut I s.heap h') (he : ∃ o, h'.get? I = some o) (ht : s.toks ≤ tk) :
    Now K S0 Av F env sc g es { s with heap := h', toks := tk } ∧ Kp Av (fun a => a = I) g es.cells s g es.cells { s with heap := h', toks := tk } :=
  have hk : ∀ b o, b ≠ I → s.heap.get? b = some o → h'.get? b = some o := sameBut_keep hs
  have hold : ∀ b o, s.heap.get? b = some o → ∃ o', h'.get? b = some o' := fun b o q => (Classical.em (b = I)).elim (fun z => z ▸ he) fun z => ⟨o, hk b o z q⟩
  have J := n.inv.reAv (Av' := Av) (h' := h') (tk := tk) (fun a o ha e => ⟨hk a o (fun z => ha (z ▸ hI)) e, ha⟩) (fun a ha => (n.inv.avs a ha).elim (hold a)) (fun a ha d hf => ⟨ha, d.keep fun o => hk a o fun z => off.2 (z ▸ hf)⟩) ht
  have R := n.env
  ⟨⟨J.1, R.kind, R.kinds, R.glob, R.bltn, R.fsub, R.locF, R.ns.imp fun m hm => ⟨hm.1.imp fun o => Exists.imp fun _ => Exists.imp fun _ => And.imp_left (hk _ o fun z => hF (z ▸ R.locF)), fun x tv a b => (hm.2 x tv a b).imp fun _ => And.imp_right (Rp.mono J.2)⟩,
      fun x hx => (R.cellF x hx).imp fun a => Exists.imp fun cv => And.imp_right fun z => ⟨z.1.imp fun o => And.imp_left (hk a o fun y => hF (y ▸ z.2.1)), z.2.1, z.2.2.1, fun tv e => (z.2.2.2 tv e).imp fun _ => And.imp_right (Rp.mono J.2)⟩,
      fun x hx => (R.freeF x hx).imp fun a => Exists.imp fun cv z => ⟨z.1, z.2.1.imp fun o => And.imp_left (hk a o fun y => off.1 x hx (y ▸ z.1)), z.2.2.1, z.2.2.2.1, fun tv e => (z.2.2.2.2 tv e).imp fun _ => And.imp_right (Rp.mono J.2)⟩, R.apart⟩,
    J.2, fun a o _ hf e => ⟨o, hk a o hf e, .inl rfl⟩, ht, hold⟩

/-- the frame, seen with more (or less) set apart -/
theorem EnvR.re {ad : Str → Option Addr} {W W' : Wd} {loc : Str → Option TV} {h h' : Heap} (R : EnvR ad W Av F env sc loc h) (le : W.Le W') (hF : ∀ a, F a → Av' a) (hfr : ∀ x a, sc.names.lookup x = some .free → env.cells.lookup x = some a → Av' a)
    (hk : ∀ a o, Av a → Av' a → h.get? a = some o → ∃ o', h'.get? a = some o' ∧ SameFr o o') : EnvR ad W' Av' F env sc loc h' :=
  ⟨R.kind, R.kinds, R.glob, R.bltn, hF, R.locF, R.ns.imp fun m hm => ⟨ns_same hm.1 fun o => hk _ o (R.fsub _ R.locF) (hF _ R.locF), fun x tv a b => (hm.2 x tv a b).imp fun _ => And.imp_right (Rp.mono le)⟩,
    fun x hx => (R.cellF x hx).imp fun a => Exists.imp fun cv => And.imp_right fun z => ⟨z.1.elim fun o y => (hk a o (R.fsub a z.2.1) (hF a z.2.1) y.1).imp fun _ w => ⟨w.1, w.2.data.trans y.2⟩, z.2.1, z.2.2.1, fun tv e => (z.2.2.2 tv e).imp fun _ => And.imp_right (Rp.mono le)⟩,
    fun x hx => (R.freeF x hx).imp fun a => Exists.imp fun cv z => ⟨z.1, z.2.1.elim fun o y => (hk a o z.2.2.1 (hfr x a hx z.1) y.1).imp fun _ w => ⟨w.1, w.2.data.trans y.2⟩, hfr x a hx z.1, z.2.2.2.1, fun tv e => (z.2.2.2.2 tv e).imp fun _ => And.imp_right (Rp.mono le)⟩, R.apart⟩

/-- new places set apart -/
theorem Now.enter (n : Now K S0 Av F env sc g es s) {N : Addr → Prop} (hN : ∀ a, N a → s.heap.get? a = none) (hN' : ∀ a, N a → ∃ o, h'.get? a = some o) (hk : ∀ a o, s.heap.get? a = some o → h'.get? a = some o) (ht : s.toks ≤ tk) :
    Now K S0 (fun a => Av a ∨ N a) F env sc g es { s with heap := h', toks := tk } ∧ (g.wd Av es.cells s.heap).Le (g.wd (fun a => Av a ∨ N a) es.cells h') :=
  have J := n.inv.reAv (Av' := fun a => Av a ∨ N a) (h' := h') (tk := tk) (fun a o ha e => ⟨hk a o e, fun z => z.elim ha fun z => noneE ((hN a z).symm.trans e)⟩) (fun a ha => ha.elim (fun ha => (n.inv.avs a ha).imp (hk a)) (hN' a)) (fun a ha d _ => ⟨.inl ha, d.keep (hk a)⟩) ht
  ⟨⟨J.1, n.env.re J.2 (fun a h => .inl (n.env.fsub a h)) (fun x a hx e => .inl (n.env.freeAt hx e).1) fun a o _ _ e => ⟨o, hk a o e, .inl rfl⟩⟩, J.2⟩

/-- ... and let go -/
theorem Now.exit' {N : Addr → Prop} (n : Now K S0 (fun a => Av a ∨ N a) F env sc g es s) (hF : ∀ a, F a → Av a) (hfr : ∀ x a, sc.names.lookup x = some .free → env.cells.lookup x = some a → Av a) (hfm : ∀ a, Frame S0 a → Av a) (hN : ∀ a, N a → ¬ Av a)
    (hk : ∀ a o, ¬ N a → s.heap.get? a = some o → h'.get? a = some o) (ht : s.toks ≤ tk) :
    Now K S0 Av F env sc g es { s with heap := h', toks := tk } ∧ (g.wd (fun a => Av a ∨ N a) es.cells s.heap).Le (g.wd Av es.cells h') :=
  have J := n.inv.reAv (Av' := Av) (h' := h') (tk := tk) (fun a o ha e => ⟨hk a o (fun z => ha (.inr z)) e, fun z => ha (.inl z)⟩) (fun a ha => (n.inv.avs a (.inl ha)).imp fun o => hk a o fun z => hN a z ha) (fun a _ d hf => ⟨hfm a hf, d.keep fun o => hk a o fun z => hN a z (hfm a hf)⟩) ht
  ⟨⟨J.1, n.env.re J.2 hF hfr fun a o _ ha e => ⟨o, hk a o (fun z => hN a z ha) e, .inl rfl⟩⟩, J.2⟩
theorem Now.exit {N : Addr → Prop} {g₀ : Gh} {es₀ : ES} {s₀ : Shared} (n₀ : Now K S0 Av F env sc g₀ es₀ s₀) (n : Now K S0 (fun a => Av a ∨ N a) F env sc g es s) (hN : ∀ a, N a → ¬ Av a)
    (hk : ∀ a o, ¬ N a → s.heap.get? a = some o → h'.get? a = some o) (ht : s.toks ≤ tk) :
    Now K S0 Av F env sc g es { s with heap := h', toks := tk } ∧ (g.wd (fun a => Av a ∨ N a) es.cells s.heap).Le (g.wd Av es.cells h') :=
  n.exit' n₀.env.fsub (fun _ _ hx e => (n₀.env.freeAt hx e).1) (fun _ h => n₀.inv.frameAv h) hN hk ht

/-- what is kept from before the places were set apart to after they were let go -/
theorem Kp.out {N : Addr → Prop} {g₀ g' : Gh} {cells₀ cells' : List Cell} {s₀ s' : Shared} {F' : Addr → Prop} (le1 : (g₀.wd Av cells₀ s₀.heap).Le (g.wd (fun a => Av a ∨ N a) cells s.heap)) (hk1 : ∀ a o, s₀.heap.get? a = some o → s.heap.get? a = some o) (ht1 : s₀.toks ≤ s.toks)
    (k : Kp (fun a => Av a ∨ N a) F' g cells s g' cells' s') (hF' : ∀ a, Av a → F' a → F a) (le2 : (g'.wd (fun a => Av a ∨ N a) cells' s'.heap).Le (g'.wd Av cells' h')) (hk2 : ∀ a o, ¬ N a → s'.heap.get? a = some o → h'.get? a = some o)
    (hN : ∀ a, N a → ¬ Av a) (hNs : ∀ a, N a → s₀.heap.get? a = none) (ht2 : s'.toks ≤ tk) : Kp Av F g₀ cells₀ s₀ g' cells' { s' with heap := h', toks := tk } :=
  ⟨(le1.trans k.le).trans le2, fun a o ha hf e => (k.av a o (.inl ha) (fun z => hf (hF' a ha z)) (hk1 a o e)).imp fun o' => And.imp_left (hk2 a o' fun z => hN a z ha), Nat.le_trans ht1 (Nat.le_trans k.tk ht2),
    fun a o e => (k.old a o (hk1 a o e)).imp fun o' => hk2 a o' fun z => noneE ((hNs a z).symm.trans e)⟩
end
end

section
open PySem PySem.W PyProof.Rows

theorem set_iter_entry : entryFor table "set.__iter__" = some Builtin.«frozenset.__iter__» :=
  entryFor_alias (id' := "frozenset.__iter__") (by kernel_rfl) rfl (by decide +kernel) (by kernel_rfl)
theorem set_iter_args (a : Value) : argsOk "set.__iter__" ⟨[a], []⟩ := by unfold argsOk; kernel_rfl
theorem si_slot : Slot "set_iterator" "__next__" "set_iterator.__next__" :=
  .of (owner := "set_iterator") (n := "__next__") (by rw [typeLookup_type, builtinLookup_eq_fast]; kernel_rfl) (by decide +kernel) (by decide +kernel) (by decide +kernel)
    (by first | exact .inl (by decide +kernel) | exact .inr (by decide +kernel)) (by rw [isSubtype_type]; kernel_rfl)
theorem si_entry : entryFor table "set_iterator.__next__" = some Builtin.«set_iterator.__next__» := entryFor_of_tree (by kernel_rfl)
theorem si_args (a : Value) : argsOk "set_iterator.__next__" ⟨[a], []⟩ := by unfold argsOk; kernel_rfl
theorem si_iter_slot : Slot "set_iterator" "__iter__" "set_iterator.__iter__" :=
  .of (owner := "set_iterator") (n := "__iter__") (by rw [typeLookup_type, builtinLookup_eq_fast]; kernel_rfl) (by decide +kernel) (by decide +kernel) (by decide +kernel)
    (by first | exact .inl (by decide +kernel) | exact .inr (by decide +kernel)) (by rw [isSubtype_type]; kernel_rfl)

section
variable {prog : Program} {w : World} {A : Around} {E : Value → Shared → Prop} {s : Shared}

theorem wpAny_setState {M : Model} {a : Addr} {o : Obj} {es : Array (Int × Value)} {ep : Nat} {t : SetTable} {Q : Array (Int × Value) × Nat × SetTable → Shared → Prop} (ho : s.heap.get? a = some o) (hd : o.data = .set es ep t) (hf : t.fits es.size = true) (h : Q (es, ep, t) s) :
    wpAny M A (setState a) Q E s := by
  unfold setState
  refine wpAny_bind (wpAny_load ho ?_)
  rw [hd]
  dsimp only
  unfold SetTable.fits at hf
  rw [Bool.and_eq_true, beq_iff_eq, decide_eq_true_eq] at hf
  have e : (t.place.size != es.size || decide (t.fill > t.mask)) = false := by
    rw [hf.1, bne_self_eq_false, Bool.false_or]
    simp; omega
  rw [e]
  exact wpAny_pure h

noncomputable abbrev setIter (d : Addr) (ep : Nat) : Obj := { cls := .type "set_iterator", data := .fields #[.int 0 0, .int 0 0, .ref d, .int 0 0, .int ep 0] }

theorem pyIter_set0 {d : Addr} {o : Obj} {ep : Nat} {t : SetTable} {Q : Value → Shared → Prop} (ho : s.heap.get? d = some o) (hex : o.ExactSet) (hd : o.data = .set #[] ep t) (hf : t.fits 0 = true)
    (h : Q (.ref s.heap.objs.size) { s with heap := s.heap.push (setIter d ep) }) : wpAny (model prog w) A (pyIter (.ref d)) Q E s := by
  have hT : s.TypeIs (.ref d) "set" := ⟨o, ho, hex.1⟩
  refine wpAny_pyIter_slot hT F.slot_set_iter (wpAny_call_entry F.slot_set_iter hT set_iter_entry ?_ (set_iter_args _))
  unfold Builtin.«frozenset.__iter__»
  refine wpAny_bind ?_
  unfold Builtin.Frozenset.slot0
  refine wpAny_bind (wpAny_of_eq (a := (Value.ref d, [])) (by first | rfl | kernel_rfl) ?_)
  show wpAny _ _ (pure d) _ _ _
  refine wpAny_pure ?_
  refine wpAny_bind ?_
  unfold Builtin.Frozenset.sizeOf setEntries
  refine wpAny_bind (wpAny_bind (wpAny_setState ho hd hf (wpAny_pure (wpAny_pure ?_))))
  refine wpAny_bind ?_
  unfold setDrawn
  refine wpAny_bind (wpAny_setState ho hd hf ?_)
  dsimp only
  refine wpAny_bind ?_
  unfold setsByText
  refine wpAny_bind (wpAny_askSetting (wpAny_pure (wpAny_pure ?_)))
  have e : ∀ b : Bool, (!b && (!t.plain && decide ((#[] : Array (Int × Value)).size > 1))) = false := fun b => by cases b <;> simp
  show wpAny _ _ (if (!_ && (!t.plain && decide ((#[] : Array (Int × Value)).size > 1))) = true then _ else _) _ _ _
  rw [e, if_neg (by decide)]
  refine wpAny_bind (wpAny_pure ?_)
  refine wpAny_bind ?_
  unfold setEpoch
  refine wpAny_bind (wpAny_setState ho hd hf (wpAny_pure ?_))
  refine wpAny_bind (wpAny_newObj_type ?_)
  exact wpAny_pure ⟨_, rfl, "set_iterator", _, ⟨_, Heap.get?_push_size _ rfl, rfl⟩, si_slot.lookup, h⟩


theorem pyNext_set0 {d I : Addr} {o : Obj} {ep : Nat} {t : SetTable} {Q : Option Value → Shared → Prop} (hh : A.handled = none) (hI : s.heap.get? I = some (setIter d ep)) (ho : s.heap.get? d = some o) (hd : o.data = .set #[] ep t) (hf : t.fits 0 = true)
    (h : ∀ h', Heap.ExtBut I s.heap h' → Q none { s with heap := h' }) : wpAny (model prog w) A (pyNext (.ref I)) Q E s := by
  have hT : s.TypeIs (.ref I) "set_iterator" := ⟨_, hI, rfl⟩
  unfold pyNext
  refine wpAny_bind (wpAny_attempt (wpAny_callSpecial?_slot (name := Str.ofString "__next__") hT si_slot (wpAny_call_entry si_slot hT si_entry ?_ (si_args _))))
  unfold Builtin.«set_iterator.__next__»
  refine wpAny_bind (wpAny_of_eq (a := (Value.ref I, [])) (by first | rfl | kernel_rfl) ?_)
  refine wpAny_bind ?_
  unfold fieldsOf
  refine wpAny_bind (wpAny_load hI (wpAny_pure ?_))
  dsimp only
  refine wpAny_bind ?_
  unfold setEntries
  refine wpAny_bind (wpAny_setState ho hd hf (wpAny_pure ?_))
  have e0 : (((#[] : Array (Int × Value)).size : Int) != 0) = false := by simp
  rw [e0, if_neg (by decide)]
  refine wpAny_bind ?_
  have nx : wpAny (model prog w) A.in1 (setNext d (0 : Int).toNat (0 : Int).toNat (ep : Int).toNat) (fun r s' => r = none ∧ s' = s) (fun _ _ => False) s := by
    unfold setNext
    refine wpAny_bind (wpAny_setState ho hd hf ?_)
    dsimp only
    refine wpAny_bind ?_
    unfold setsByText
    refine wpAny_bind (wpAny_askSetting (wpAny_pure ?_))
    have e1 : ((ep : Nat) != (ep : Int).toNat) = false := by simp
    have e2 : (!t.plain && decide ((#[] : Array (Int × Value)).size > 1)) = false := by simp
    by_cases hb : (model prog w).w.params.followText "set-order" = true
    · rw [if_pos hb, e1, if_neg (by decide)]
      refine wpAny_bind ?_
      unfold setWalk
      refine wpAny_bind (wpAny_setState ho hd hf ?_)
      dsimp only
      refine wpAny_bind ?_
      unfold setsByText
      refine wpAny_bind (wpAny_askSetting (wpAny_pure ?_))
      rw [if_pos hb]
      refine wpAny_bind (wpAny_askSetting (wpAny_pure ?_))
      exact wpAny_pure ⟨by simp [pickOrder, pickOrder.go], rfl⟩
    · rw [if_neg hb]
      show wpAny _ _ (if (!t.plain && decide ((#[] : Array (Int × Value)).size > 1)) = true then _ else _) _ _ _
      rw [e2, if_neg (by decide)]
      refine wpAny_bind (wpAny_of_eq (a := ()) (by obtain ⟨_, _, _, _, led, _, _⟩ := t; cases led <;> rfl) ?_)
      exact wpAny_pure ⟨by simp, rfl⟩
  refine wpAny_mono nx (fun r s' hr => ?_) fun _ _ (f : False) => f.elim
  obtain ⟨rfl, rfl⟩ := hr
  dsimp only
  refine wpAny_bind (wpAny_setField hI rfl (by simp) ?_)
  show wpAny _ _ (newExc (.type "StopIteration") [] >>= _) _ _ _
  refine wpAny_bind ?_
  simp only [newExc, newTuple]
  refine wpAny_bind (wpAny_newObj_type ?_ (by size_fits))
  refine wpAny_bind (m := firstArgMember _ _) (wpAny_of_eq (a := Value.none) (by first | rfl | (simp only [firstArgMember]; rfl)) ?_)
  refine wpAny_newObj_type ?_ (by size_fits)
  simp only [raiseNew]
  refine wpAny_bind (wpAny_handled ?_)
  rw [show A.in1.handled = none from hh]
  refine wpAny_bind (wpAny_pure (wpAny_throw ?_))
  refine wpAny_bind (wpAny_isInstance (T := "StopIteration") (b := true) ⟨_, Heap.get?_push_size _ rfl, rfl⟩ isSubtype_stop ?_)
  exact wpAny_pure (h _ (((Heap.SameBut.update ..).extBut.push _).push _))
end
end

section
open PySem PySem.W PyProof.Rows

/-- a dict that stands for good -/
noncomputable def DE (W : Wd) (d : Addr) (m ep : Nat) : Prop := ∃ o es, W.V d o ∧ o.data = .dict es ep ∧ es.size = m
/-- an iterator, and what it goes over -/
noncomputable def Walk (K : GK) (W : Wd) (h : Heap) (k : WK) (I : Addr) (src : TV) (i : Nat) : Prop := match k with
  | .list => ∃ ax, Rp K.ad W src (.ref ax) ∧ h.IsListIter I ax i
  | .tup => ∃ ax, Rp K.ad W src (.ref ax) ∧ h.IsTupleIter I ax i
  | .rng => ∃ lo hi st, src = .rng lo hi st ∧ IsRangeIter h I (lo + (i : Nat) * st) ((Builtin.Range.rangeSize lo hi st) - (i : Nat)) st
  | .keys => ∃ n d m ep, (src = .ref n ∧ W.am[n]? = some d) ∧ DE W d m ep ∧ h.IsKeyIter I d i m ep
  | .vals => ∃ n d m ep, (src = .vals n ∧ W.am[n]? = some d) ∧ DE W d m ep ∧ h.IsValIter I d i m ep
  | .set => ∃ n d ep, (src = .ref n ∧ W.am[n]? = some d) ∧ (∃ o t, W.V d o ∧ o.data = .set #[] ep t ∧ t.fits 0 = true) ∧ h.get? I = some (setIter d ep)

theorem DE.mono {W W' : Wd} {d : Addr} {m ep : Nat} (le : W.Le W') (h : DE W d m ep) : DE W' d m ep := h.imp fun _ => Exists.imp fun _ => And.imp_left (le.v _ _)
theorem Walk.keep {K : GK} {W W' : Wd} {h h' : Heap} {k : WK} {I : Addr} {src : TV} {i : Nat} (le : W.Le W') (hk : ∀ o, h.get? I = some o → h'.get? I = some o) : Walk K W h k I src i → Walk K W' h' k I src i := by
  have it : ∀ {p : Obj → Prop}, (∃ o, h.get? I = some o ∧ p o) → ∃ o, h'.get? I = some o ∧ p o := fun z => z.imp fun o => And.imp_left (hk o)
  cases k with
  | list => exact Exists.imp fun ax => And.imp (Rp.mono le) it
  | tup => exact Exists.imp fun ax => And.imp (Rp.mono le) it
  | rng => exact Exists.imp fun _ => Exists.imp fun _ => Exists.imp fun _ => And.imp_right (hk _)
  | keys => exact Exists.imp fun _ => Exists.imp fun _ => Exists.imp fun _ => Exists.imp fun _ => And.imp (And.imp_right le.am) (And.imp (DE.mono le) it)
  | vals => exact Exists.imp fun _ => Exists.imp fun _ => Exists.imp fun _ => Exists.imp fun _ => And.imp (And.imp_right le.am) (And.imp (DE.mono le) it)
  | set => exact Exists.imp fun _ => Exists.imp fun _ => Exists.imp fun _ => And.imp (And.imp_right le.am) (And.imp (Exists.imp fun _ => Exists.imp fun _ => And.imp_left (le.v _ _)) (hk _))

/-- an iterator is no frame -/
theorem Walk.sameFr {K : GK} {W : Wd} {h h' : Heap} {k : WK} {I : Addr} {src : TV} {i : Nat} (w : Walk K W h k I src i) (hk : ∀ o, h.get? I = some o → ∃ o', h'.get? I = some o' ∧ SameFr o o') (o : Obj) (ho : h.get? I = some o) : h'.get? I = some o := by
  have nd : ∀ {ob : Obj} {f : Array Value}, h.get? I = some ob → ob.data = .fields f → ∀ es ep, o.data ≠ .dict es ep := fun e d es ep => by
    rw [Option.some.inj (ho.symm.trans e), d]; exact nofun
  have it : ∀ {C : Value} {f : Array Value}, (∃ ob, h.get? I = some ob ∧ ob.cls = C ∧ ob.data = .fields f) → ∀ es ep, o.data ≠ .dict es ep := fun z => z.elim fun _ z => nd z.1 z.2.2
  have this : ∀ es ep, o.data ≠ .dict es ep := by
    cases k with
    | list => exact w.elim fun _ z => it z.2
    | tup => exact w.elim fun _ z => it z.2
    | rng => exact w.elim fun _ w => w.elim fun _ w => w.elim fun _ z => nd z.2 rfl
    | keys => exact w.elim fun _ w => w.elim fun _ w => w.elim fun _ w => w.elim fun _ z => it z.2.2
    | vals => exact w.elim fun _ w => w.elim fun _ w => w.elim fun _ w => w.elim fun _ z => it z.2.2
    | set => exact w.elim fun _ w => w.elim fun _ w => w.elim fun _ z => nd z.2.2 rfl
  exact (hk o ho).elim fun o' z => z.2.eq_of this ▸ z.1

section
variable {G : TG} {K : GK} {S0 : Reg} {Av Av' F : Addr → Prop} {env : Env} {sc : Scope} {g g₁ : Gh} {es es₁ : ES} {s s₁ : Shared} {cells : List Cell} {h' : Heap} {tk : Nat}

theorem lockC_fix (c : Cell) : isFix (lockC c) = false → isFix c = false := by
  cases c with
  | dict => exact fun h => absurd h.symm Bool.false_ne_true
  | set => exact fun h => absurd h.symm Bool.false_ne_true
  | _ => exact id
theorem lockC_rel {W : Wd} {h : Heap} {a : Addr} (c : Cell) : CellR K W h a c → CellR K W h a (lockC c) := by cases c <;> exact id
/-- locking changes nothing on the heap -/
theorem Inv.lock1 (I : Inv K S0 Av g cells s) {n : Nat} {c : Cell} (hc : cells[n]? = some c) : Inv K S0 Av g (cells.set n (lockC c)) s ∧ Kp Av NoF g cells s g (cells.set n (lockC c)) s :=
  have le : (g.wd Av cells s.heap).Le (g.wd Av (cells.set n (lockC c)) s.heap) := ⟨fun a o z => ⟨z.1, z.2.1, fun y => z.2.2 (y.elim fun j y => y.elim fun d y => (set_at y.2.1).elim (fun w => ⟨n, c, w.1 ▸ y.1, hc, lockC_fix c (w.2 ▸ y.2.2)⟩) fun w => ⟨j, d, y.1, w.2, y.2.2⟩)⟩, id, fun _ _ => id⟩
  ⟨⟨I.same, fun a o e => le.v a o (I.base a o e), I.avs, I.ams, I.len.trans List.length_set.symm, I.nodup, I.apart, I.off,
      fun j d b hd hb => (set_at hd).elim (fun w => by rw [w.2]; exact lockC_rel c ((I.cell n c b hc (w.1 ▸ hb)).mono le fun _ => id)) fun w => (I.cell j d b w.2 hb).mono le fun _ => id, I.toks, I.tt, I.frm⟩, le, fun _ o _ _ e => ⟨o, e, .inl rfl⟩, Nat.le_refl _, fun _ o e => ⟨o, e⟩⟩

theorem Now.lock (n : Now K S0 Av F env sc g es s) (src : TV) : Now K S0 Av F env sc g (lockES es src) s ∧ Kp Av F g es.cells s g (lockES es src).cells s := by
  have triv : Now K S0 Av F env sc g es s ∧ Kp Av F g es.cells s g es.cells s := ⟨n, .refl⟩
  have go : ∀ (i : Nat), Now K S0 Av F env sc g { es with cells := lockAt es.cells i es.cells[i]? } s ∧ Kp Av F g es.cells s g (lockAt es.cells i es.cells[i]?) s := fun i => by
    cases hc : es.cells[i]? with
    | none => exact triv
    | some c => exact have J := n.inv.lock1 hc; ⟨⟨J.1, n.env.kp J.2⟩, J.2.weak fun _ h => h.elim⟩
  cases src with
  | ref i => exact go i
  | vals i => exact go i
  | _ => exact triv

/-- what is locked stands for good -/
theorem not_live (I : Inv K S0 Av g cells s) {n : Nat} {c : Cell} {a : Addr} (hc : cells[n]? = some c) (ha : g.am[n]? = some a) (hf : isFix c = true) : ¬ Live g.am cells a := fun h => h.elim fun j h => h.elim fun d z =>
  absurd ((congrArg isFix (Option.some.inj (hc.symm.trans (I.am_inj z.1 ha ▸ z.2.1)))).symm.trans hf) (by rw [z.2.2]; exact Bool.false_ne_true)
/-- a dict that is gone over -/
theorem fixD (I : Inv K S0 Av g cells s) {n m ep : Nat} {d : Addr} {kvs : List (Str × TV)} {P : Prop} (hc : cells[n]? = some (.dict kvs true)) (ha : g.am[n]? = some d) (e : DE (g.wd Av cells s.heap) d m ep)
    (k : ∀ l, s.heap.DictAt (PySem.strKind K.prog K.w) d l ep → m = l.length → KvR K.ad (g.wd Av cells s.heap) kvs l → P) : P :=
  (I.cell n _ d hc ha).elim fun l z => z.elim fun o z => e.elim fun o' e => e.elim fun es e => z.2.1.elim fun es' y => y.elim fun ep' y => by
    have q := Option.some.inj (z.1.symm.trans e.1.1)
    have q2 := y.2.1.symm.trans ((congrArg Obj.data q).trans e.2.1)
    injection q2 with q3 q4
    rw [q3, q4] at y
    exact k l ⟨o, es, z.1, y.1, y.2.1, y.2.2⟩ (e.2.2.symm.trans (Array.length_toList.symm.trans y.2.2.2.1.length)) z.2.2
/-- ... at the start -/
theorem startD (I : Inv K S0 Av g cells s) {n : Nat} {d : Addr} {kvs : List (Str × TV)} {P : Prop} (hc : cells[n]? = some (.dict kvs true)) (ha : g.am[n]? = some d)
    (k : ∀ l ep, s.heap.DictAt (PySem.strKind K.prog K.w) d l ep → DE (g.wd Av cells s.heap) d l.length ep → P) : P :=
  (I.cell n _ d hc ha).elim fun l z => z.elim fun o z => z.2.1.elim fun es y => y.elim fun ep y => k l ep ⟨o, es, z.1, y.1, y.2.1, y.2.2⟩ ⟨o, es, ⟨z.1, I.offAt ha, not_live I hc ha rfl⟩, y.2.1, Array.length_toList.symm.trans y.2.2.2.1.length⟩

theorem kvR_nth {ad : Str → Option Addr} {W : Wd} {kvs : List (Str × TV)} {l : List (Str × Value)} (h : KvR ad W kvs l) {i : Nat} {p : Str × TV} (e : kvs[i]? = some p) : ∃ v, l[i]? = some (p.1, v) ∧ Rp ad W p.2 v ∧ PyData.strOk p.1 = true :=
  (F2.get h e).elim fun q z => ⟨q.2, z.1.trans (congrArg some (Prod.ext z.2.1.1 rfl)), z.2.2, z.2.1.2⟩

theorem stands_list {src : TV} {all : List TV} (h : standsW cells src all .list) : listOfTV cells src = some all := h.elim (fun e => e ▸ rfl) fun z => z.elim fun n z => z.1 ▸ congrArg cellL z.2

/-- the start -/
theorem walk_start {k : WK} {src : TV} {v : Value} {all : List TV} {A : Around} {E : Value → Shared → Prop} {P : Value → Shared → Prop} (hB : Base G K) (I : Inv K S0 Av g cells s) (r : Rp K.ad (g.wd Av cells s.heap) src v) (hst : stands k cells src all)
    (h : ∀ o, o.isFreed = false → Walk K (g.wd Av cells s.heap) (s.heap.push o) k s.heap.objs.size src 0 → P (.ref s.heap.objs.size) { s with heap := s.heap.push o }) : wpAny (model K.prog K.w) A (pyIter v) P E s := by
  replace hst := hst.1
  cases k with
  | list =>
    exact (listOf_inv I r (stands_list hst)).elim fun a q => q.elim fun us q => q.elim fun n q => by
      rw [q.1] at r ⊢
      exact wpAny_pyIter_list (IsList.of q.2.1) (h _ rfl ⟨a, r, _, Heap.get?_push_size _ rfl, rfl, rfl⟩)
  | tup =>
    replace hst : src = .tup all := hst
    subst hst
    exact r.tupE' fun a vs n e q => wpAny_pyIter_tuple ⟨_, e.1, rfl, _, rfl⟩ (h _ rfl ⟨_, .tup e q, _, Heap.get?_push_size _ rfl, rfl, rfl⟩)
  | rng =>
    exact hst.elim fun lo z => z.elim fun hi z => z.elim fun st z => by
      have e := z.1
      subst e
      exact r.rngE fun a t u w e => wpAny_pyIter_range e.1 z.2.1.1 (h _ rfl ⟨_, _, _, rfl, by rw [IsRangeIter, Heap.get?_push_size _ rfl, Int.natCast_zero, Int.zero_mul, Int.add_zero, Int.sub_zero]⟩)
  | keys =>
    exact hst.elim fun n z => z.elim fun kvs z => by
      have e := z.1
      subst e
      exact r.refE fun a ha => startD I z.2.1 ha fun l ep hat de => wpAny_pyIter_dict (I.notMods hB ha) hat (h _ rfl ⟨_, a, l.length, ep, ⟨rfl, ha⟩, de, _, Heap.get?_push_size _ rfl, rfl, rfl⟩)
  | vals =>
    exact hst.elim fun n z => z.elim fun kvs z => by
      have e := z.1
      subst e
      exact r.elim fun d y => y.elim fun a y => y.elim fun o y => y.1 ▸ startD I z.2.1 y.2.1 fun l ep hat de => wpAny_pyIter_values ⟨_, y.2.2.1.1, y.2.2.2.1, y.2.2.2.2⟩ hat (h _ rfl ⟨_, d, l.length, ep, ⟨rfl, y.2.1⟩, de, _, Heap.get?_push_size _ rfl, rfl, rfl⟩)
  | set =>
    exact hst.elim fun n z => by
      have e := z.1
      subst e
      exact r.refE fun a ha => (I.cell n _ a z.2.1 ha).elim fun o y => y.2.1.elim fun es w => w.elim fun ep w => w.elim fun t w => by
        have hes : es = #[] := Array.eq_empty_of_size_eq_zero w.2.2.2.2.2.2
        rw [hes] at w
        exact pyIter_set0 y.1 w.1 w.2.1 w.2.2.2.2.2.1 (h _ rfl ⟨_, a, ep, ⟨rfl, ha⟩, ⟨o, t, ⟨y.1, I.offAt ha, not_live I z.2.1 ha rfl⟩, w.2.1, w.2.2.2.2.2.1⟩, Heap.get?_push_size _ rfl⟩)

theorem it_there {h' : Heap} {I : Addr} {p : Obj → Prop} (z : ∃ o, h'.get? I = some o ∧ p o) : ∃ o, h'.get? I = some o := z.imp fun _ => And.left

/-- a turn: the item, and the iterator one on -/
theorem walk_next {k : WK} {I : Addr} {src x : TV} {all : List TV} {i : Nat} {A : Around} {E : Value → Shared → Prop} {P : Option Value → Shared → Prop} (n : Now K S0 Av F env sc g es s) (hI : Av I) (hF : ¬ F I) (off : Off S0 env sc I)
    (w : Walk K (g.wd Av es.cells s.heap) s.heap k I src i) (hst : stands k es.cells src all) (hx : all[i]? = some x)
    (h : ∀ v s', Now K S0 Av F env sc g es s' → Kp Av (fun a => a = I) g es.cells s g es.cells s' → Rp K.ad (g.wd Av es.cells s'.heap) x v → Walk K (g.wd Av es.cells s'.heap) s'.heap k I src (i + 1) → P (some v) s') :
    wpAny (model K.prog K.w) A (pyNext (.ref I)) P E s := by
  replace hst := hst.1
  have J := n.inv
  have go : ∀ (v : Value) (h' : Heap) (tk : Nat), Heap.SameBut I s.heap h' → (∃ o, h'.get? I = some o) → s.toks ≤ tk → Rp K.ad (g.wd Av es.cells s.heap) x v → ((g.wd Av es.cells s.heap).Le (g.wd Av es.cells h') → Walk K (g.wd Av es.cells h') h' k I src (i + 1)) → P (some v) { s with heap := h', toks := tk } := fun v h' tk hs he ht r hw =>
    have J := n.setI hI hF off hs he ht
    h v _ J.1 J.2 (r.mono J.2.le) (hw J.2.le)
  cases k with
  | list =>
    exact w.elim fun ax w => (listOf_inv J w.1 (stands_list hst)).elim fun a q => q.elim fun us q => q.elim fun m q => (F2.get q.2.2 hx).elim fun v y =>
      wpAny_pyNext_list_item w.2 (IsList.of (Value.ref.inj q.1 ▸ q.2.1)) (List.getElem?_toArray.trans y.1) fun h' hit hs => go v h' s.toks hs (it_there hit) (Nat.le_refl _) y.2 fun le => ⟨ax, w.1.mono le, hit⟩
  | tup =>
    replace hst : src = .tup all := hst
    subst hst
    exact w.elim fun ax w => w.1.tupI.elim fun a q => q.elim fun us q => q.elim fun m q => (F2.get q.2.2 hx).elim fun v y =>
      wpAny_pyNext_tuple_item w.2 ⟨_, Value.ref.inj q.1 ▸ q.2.1.1, rfl, _, rfl⟩ (List.getElem?_toArray.trans y.1) fun h' hit hs => go v h' s.toks hs (it_there hit) (Nat.le_refl _) y.2 fun le => ⟨ax, w.1.mono le, hit⟩
  | rng =>
    exact hst.elim fun lo z => z.elim fun hi z => z.elim fun st z => w.elim fun lo' w => w.elim fun hi' w => w.elim fun st' w => by
      have e := z.2.2
      subst e
      have e := w.1.symm.trans z.1
      injection e with e1 e2 e3
      subst e1 e2 e3
      have hlt : i < (Builtin.Range.rangeSize lo' hi' st').toNat := by
        have := (List.getElem?_eq_some_iff.mp hx).1
        unfold rangeL at this
        rwa [List.length_map, List.length_range] at this
      have ex : x = .int (lo' + (i : Int) * st') := by
        unfold rangeL at hx
        rw [List.getElem?_map, List.getElem?_range hlt] at hx
        exact (Option.some.inj hx).symm
      subst ex
      refine wpAny_pyNext_range_item w.2 (by omega) fun h' hit hs => go _ h' (s.toks + 1) hs ⟨_, hit⟩ (Nat.le_succ _) (.int _ _) fun le => ⟨lo', hi', st', w.1, ?_⟩
      rw [Int.natCast_succ, Int.add_mul, Int.one_mul, ← Int.add_assoc, ← Int.sub_sub]
      exact hit
  | keys =>
    exact hst.elim fun j z => z.elim fun kvs z => w.elim fun j' w => w.elim fun d w => w.elim fun m w => w.elim fun ep w => by
      have e := TV.ref.inj (w.1.1.symm.trans z.1)
      have e2 := z.2.2
      subst e e2
      rw [List.getElem?_map] at hx
      exact mapE hx fun p hp e => fixD J z.2.1 w.1.2 w.2.1 fun l hat hm q => (kvR_nth q hp).elim fun v y => wpAny_pyNext_dict_item (hm ▸ w.2.2) hat y.1 fun key h' hkey hit hs => (Value.isStrOf_shape hkey).elim fun t et =>
        go _ h' s.toks hs (it_there hit) (Nat.le_refl _) (by rw [← e, et]; exact .su y.2.2) fun le => ⟨_, d, m, ep, ⟨w.1.1, le.am w.1.2⟩, w.2.1.mono le, hm ▸ hit⟩
  | vals =>
    exact hst.elim fun j z => z.elim fun kvs z => w.elim fun j' w => w.elim fun d w => w.elim fun m w => w.elim fun ep w => by
      have e := TV.vals.inj (w.1.1.symm.trans z.1)
      have e2 := z.2.2
      subst e e2
      rw [List.getElem?_map] at hx
      exact mapE hx fun p hp e => fixD J z.2.1 w.1.2 w.2.1 fun l hat hm q => (kvR_nth q hp).elim fun v y => wpAny_pyNext_values_item (hm ▸ w.2.2) hat y.1 fun h' hit hs =>
        go _ h' s.toks hs (it_there hit) (Nat.le_refl _) (e ▸ y.2.1) fun le => ⟨_, d, m, ep, ⟨w.1.1, le.am w.1.2⟩, w.2.1.mono le, hm ▸ hit⟩
  | set =>
    exact hst.elim fun j z => by
      rw [z.2.2] at hx
      exact noneE hx

/-- the end -/
theorem walk_end {k : WK} {I : Addr} {src : TV} {all : List TV} {A : Around} {E : Value → Shared → Prop} {P : Option Value → Shared → Prop} (J : Inv K S0 Av g cells s) (hh : A.handled = none)
    (w : Walk K (g.wd Av cells s.heap) s.heap k I src all.length) (hst : stands k cells src all)
    (h : ∀ h', Heap.ExtBut I s.heap h' → P none { s with heap := h' }) :
    wpAny (model K.prog K.w) A (pyNext (.ref I)) P E s := by
  replace hst := hst.1
  have off : ∀ {α β : Type} {xs : List α} {l : List β}, l.length = xs.length → l[xs.length]? = none := fun e => List.getElem?_eq_none (Nat.le_of_eq e)
  cases k with
  | list =>
    exact w.elim fun ax w => (listOf_inv J w.1 (stands_list hst)).elim fun a q => q.elim fun us q => q.elim fun m q => wpAny_pyNext_list_end hh w.2 (IsList.of (Value.ref.inj q.1 ▸ q.2.1)) (List.getElem?_toArray.trans (off q.2.2.length)) h
  | tup =>
    replace hst : src = .tup all := hst
    subst hst
    exact w.elim fun ax w => w.1.tupI.elim fun a q => q.elim fun us q => q.elim fun m q => wpAny_pyNext_tuple_end hh w.2 ⟨_, Value.ref.inj q.1 ▸ q.2.1.1, rfl, _, rfl⟩ (List.getElem?_toArray.trans (off q.2.2.length)) h
  | rng =>
    exact hst.elim fun lo z => z.elim fun hi z => z.elim fun st z => w.elim fun lo' w => w.elim fun hi' w => w.elim fun st' w => by
      have e := z.2.2
      subst e
      have e := w.1.symm.trans z.1
      injection e with e1 e2 e3
      subst e1 e2 e3
      refine wpAny_pyNext_range_end hh w.2 ?_ h
      unfold rangeL
      rw [List.length_map, List.length_range, Int.toNat_of_nonneg z.2.1.2, Int.sub_self]
      exact Int.le_refl 0
  | keys =>
    exact hst.elim fun j z => z.elim fun kvs z => w.elim fun j' w => w.elim fun d w => w.elim fun m w => w.elim fun ep w => by
      have e := TV.ref.inj (w.1.1.symm.trans z.1)
      have e2 := z.2.2
      subst e e2
      rw [List.length_map] at w
      exact fixD J z.2.1 w.1.2 w.2.1 fun l hat hm q => wpAny_pyNext_dict_end hh (hm ▸ w.2.2) hat (off q.length) h
  | vals =>
    exact hst.elim fun j z => z.elim fun kvs z => w.elim fun j' w => w.elim fun d w => w.elim fun m w => w.elim fun ep w => by
      have e := TV.vals.inj (w.1.1.symm.trans z.1)
      have e2 := z.2.2
      subst e e2
      rw [List.length_map] at w
      exact fixD J z.2.1 w.1.2 w.2.1 fun l hat hm q => wpAny_pyNext_values_end hh (hm ▸ w.2.2) hat (off q.length) h
  | set =>
    exact w.elim fun j w => w.elim fun d w => w.elim fun ep w => w.2.1.elim fun o y => y.elim fun t y => pyNext_set0 hh w.2.2 y.1.1 y.2.1 y.2.2 h
end
end

section
open PySem PySem.W PyProof.Rows

section
variable {G : TG} {K : GK} {S0 : Reg} {Av Av' F : Addr → Prop} {env : Env} {sc : Scope} {g g₁ : Gh} {es es₁ : ES} {s s₁ : Shared} {cells : List Cell} {h' : Heap} {tk : Nat}

theorem storeAll_len {cx : Cx} {ts : List Expr} : ∀ {xs : List TV} {es : ES} {Q : ES → Prop}, storeAll cx ts xs es Q → (assignEach ts env).length = xs.length ∧ (assignEach ts env).findIdx? (·.1) = none := by
  induction ts with
  | nil => exact fun h => ⟨h.1 ▸ rfl, rfl⟩
  | cons t ts ih =>
    exact fun h => h.elim fun x h => h.elim fun p h => h.elim fun v h => h.elim fun us h => by
      have q := ih h.2.2.2
      rw [h.1, h.2.1]
      refine ⟨congrArg (· + 1) q.1, ?_⟩
      show ((false, _) :: assignEach ts env).findIdx? (·.1) = none
      rw [List.findIdx?_cons, q.2]
      rfl

theorem storeAll_ok {cx : Cx} {A : Around} {E : Value → Shared → Prop} {P : Shared → Prop} {ts : List Expr} : ∀ {xs : List TV} {vs : List Value} {g : Gh} {es : ES} {s : Shared} {Q : ES → Prop}, storeAll cx ts xs es Q → Now K S0 Av F env cx.sc g es s → RpL K.ad (g.wd Av es.cells s.heap) xs vs → PostU K S0 Av F env cx.sc g es s Q P →
    wpAny (model K.prog K.w) A (assignInOrder ((assignEach ts env).map (·.2)) vs) (fun _ => P) E s := by
  induction ts with
  | nil => exact fun h n r p => (RpL.nilE (h.1 ▸ r) (wpAny_pure (p _ _ _ h.2 n .refl)))
  | cons t ts ih =>
    exact fun h n r p => h.elim fun x h => h.elim fun q h => h.elim fun v h => h.elim fun us h => by
      have e := h.1
      have e' := h.2.1
      subst e e'
      exact r.consE fun v' vs' rv rs => wpAny_bind (wpAny_holding (PySem.wpAny_assign_Name (store_ok n rv h.2.2 fun s1 es1 g1 h1 n1 k1 => ih h1 n1 (RpL.mono k1.le rs) (p.on k1))))

theorem bindTgt_ok {cx : Cx} {A : Around} {t : Expr} {x : TV} {v : Value} {E : Value → Shared → Prop} {Q : ES → Prop} {P : Shared → Prop} (hh : cx.hn = true → A.handled = none) (h : BindT cx t x es Q) (n : Now K S0 Av F env cx.sc g es s) (r : Rp K.ad (g.wd Av es.cells s.heap) x v)
    (p : PostU K S0 Av F env cx.sc g es s Q P) : wpAny (model K.prog K.w) A (assign t env v) (fun _ => P) E s := by
  induction h with
  | name h => exact PySem.wpAny_assign_Name (store_ok n r h p)
  | tuple hn h =>
    exact r.tupE' fun a vs m e q => wpAny_assign_Tuple (items := vs.toArray) (hh hn) ⟨_, e.1, rfl, _, rfl⟩ ((storeAll_len h).1.trans q.length.symm) (storeAll_len h).2 fun h' hs =>
      have J := n.grow (h' := h') (fun a o z => hs a o (Nat.ne_of_lt (Heap.lt_size z)) z) (Nat.le_refl s.toks)
      storeAll_ok h J.1 (RpL.mono J.2.le q) (p.on J.2)

/-- none of our iterators owns the tuple it hands out -/
theorem letGo_ok {W : Wd} {k : WK} {I : Addr} {src : TV} {i : Nat} {cx : Cx} {t : Expr} {x : TV} {v : Value} {A : Around} {E : Value → Shared → Prop} {Q : ES → Prop} {P : Unit → Shared → Prop} (w : Walk K W s.heap k I src i) (hb : BindT cx t x es Q) (r : Rp K.ad W x v) (h : P () s) :
    wpAny (model K.prog K.w) A (letOwnedTupleGo t (.ref I) v) P E s := by
  induction hb with
  | name => exact wpAny_pure h
  | @tuple ts kk pp =>
    have go : ∀ {nm : String} {fs : Array Value}, (["enumerate", "zip", "dict_itemiterator", "dict_reverseitemiterator", "odict_iterator", "itertools.zip_longest", "itertools.pairwise"].contains nm) = false → (∃ ob, s.heap.get? I = some ob ∧ ob.cls = .type nm ∧ ob.data = .fields fs) →
        wpAny (model K.prog K.w) A (letOwnedTupleGo (.Tuple ts kk pp) (.ref I) v) P E s := fun e z => z.elim fun o z => r.tupE' fun a vs n _ _ => wpAny_bind (wpAny_load z.1 (by
      rw [z.2.1, z.2.2]
      dsimp only
      rw [e, Bool.false_and, if_neg Bool.false_ne_true]
      exact wpAny_pure h))
    cases k with
    | list => exact w.elim fun _ w => go (by decide) w.2
    | tup => exact w.elim fun _ w => go (by decide) w.2
    | rng => exact w.elim fun _ w => w.elim fun _ w => w.elim fun _ w => go (by decide) ⟨_, w.2, rfl, rfl⟩
    | keys => exact w.elim fun _ w => w.elim fun _ w => w.elim fun _ w => w.elim fun _ w => go (by decide) w.2.2
    | vals => exact w.elim fun _ w => w.elim fun _ w => w.elim fun _ w => w.elim fun _ w => go (by decide) w.2.2
    | set => exact w.elim fun _ w => w.elim fun _ w => w.elim fun _ w => go (by decide) ⟨_, w.2.2, rfl, rfl⟩
end
end

section
open PySem PySem.W PyProof.Rows

section
variable {G : TG} {K : GK} {S0 : Reg} {Av Av' F : Addr → Prop} {env : Env} {sc : Scope} {g g₁ : Gh} {es es₁ : ES} {s s₁ : Shared} {cells : List Cell} {h' : Heap} {tk : Nat}

theorem FlR.mono {ad : Str → Option Addr} {W W' : Wd} (le : W.Le W') {tf : TF} {fl : Flow} : FlR ad W tf fl → FlR ad W' tf fl := by
  cases tf with
  | ret => exact Exists.imp fun _ => And.imp_right (Rp.mono le)
  | _ => exact id

theorem drop_at {α : Type} {l xs : List α} {i : Nat} {x : α} (e : l.drop i = x :: xs) : l[i]? = some x ∧ l.drop (i + 1) = xs :=
  ⟨(List.head?_drop (l := l) (i := i)).symm.trans (congrArg List.head? e), (List.tail_drop (l := l) (i := i)).symm.trans (congrArg List.tail e)⟩

/-- what a loop's turns keep -/
noncomputable def ForJ (K : GK) (S0 : Reg) (Av F : Addr → Prop) (env : Env) (cx : Cx) (r : Rec) (t : Expr) (wk : WK) (src : TV) (body : List Stmt) (all : List TV) (Q : TF → ES → Prop) (I : Addr) (g1 : Gh) (cells1 : List Cell) (s1 : Shared) (m : Nat) (s' : Shared) : Prop :=
  ∃ (i : Nat) (es' : ES) (g' : Gh) (_ : i + m = all.length), forLoop r cx t wk src all body (all.drop i) es' Q ∧ Now K S0 Av F env cx.sc g' es' s' ∧ Walk K (g'.wd Av es'.cells s'.heap) s'.heap wk I src i ∧ Kp Av (fun a => F a ∨ a = I) g1 cells1 s1 g' es'.cells s'

/-- one turn of a loop -/
theorem turn_ok {r : Rec} {k : Nat} {cx : Cx} (hr : Snd K S0 k r) {A : Around} (hA : AOk S0 k cx.hn A) (hn : cx.hn = true) {t : Expr} {wk : WK} {src : TV} {body : List Stmt} {all : List TV} {Q : TF → ES → Prop} {I : Addr} {g1 : Gh} {cells1 : List Cell} {s1 s' : Shared} {m : Nat} {E : Value → Shared → Prop} {P : Flow → Shared → Prop}
    (htop : S0.fr.head? = some env) (hI : Av I) (hNF : ¬ F I) (off : Off S0 env cx.sc I) (h : ForJ K S0 Av F env cx r t wk src body all Q I g1 cells1 s1 m s')
    (out : ∀ {g' : Gh} {es' : ES} {s' : Shared} {tf : TF} {fl : Flow} {h' : Heap}, Q tf es' → Now K S0 Av F env cx.sc g' es' s' → Kp Av (fun a => F a ∨ a = I) g1 cells1 s1 g' es'.cells s' → FlR K.ad (g'.wd Av es'.cells s'.heap) tf fl → Heap.ExtBut I s'.heap h' → P fl { s' with heap := h' }) :
    wpAny (model K.prog K.w) A (pyNext (.ref I)) (fun rv s₁ => match rv with
      | none => wpAny (model K.prog K.w) A (execs [] env) P E s₁
      | some v => wpAny (model K.prog K.w) A (letOwnedTupleGo t (.ref I) v) (fun _ s₁' =>
          wpAny (model K.prog K.w) A (assign t env v) (fun _ s₂ => wpAny (model K.prog K.w) A (execs body env) (fun f s₃ => match f with
            | .next | .cont => ∃ m', m' < m ∧ ForJ K S0 Av F env cx r t wk src body all Q I g1 cells1 s1 m' s₃
            | .brk => P .next s₃
            | .ret v => P (.ret v) s₃) E s₂) E s₁') E s₁) E s' := by
  refine h.elim fun i h => h.elim fun es' h => h.elim fun g' h => h.elim fun him z => ?_
  have hd := z.1
  cases e : all.drop i with
  | nil =>
    rw [e] at hd
    have hi : i = all.length := Nat.le_antisymm (him ▸ Nat.le_add_right i m) (List.drop_eq_nil_iff.mp e)
    subst hi
    exact walk_end z.2.1.inv (hA.hand hn) z.2.2.1 hd.1 fun h' hx => wpAny_execs_nil (out hd.2 z.2.1 z.2.2.2 rfl hx)
  | cons x xs =>
    rw [e] at hd
    have hx := (drop_at e).1
    have hxs := (drop_at e).2
    have hlt : i < all.length := (List.getElem?_eq_some_iff.mp hx).1
    refine walk_next z.2.1 hI hNF off z.2.2.1 hd.1 hx fun v s2 n5 k5 r5 w5 => letGo_ok w5 hd.2 r5 (bindTgt_ok (fun _ => hA.hand hn) hd.2 n5 r5 fun s3 es3 g3 h3 n6 k7 => hr.s cx body es3 _ h3 A env _ F g3 s3 _ _ hA htop n6 (fun fl s4 tf es4 g4 h4 n7 k8 rf => ?_) fun _ _ _ _ _ _ _ q => False.elim q)
    have k9 := ((z.2.2.2.trans (k5.weak fun a e => .inr e)).trans (k7.weak fun a e => .inl e)).trans (k8.weak fun a e => .inl e)
    have again : forLoop r cx t wk src all body xs es4 Q → ∃ m', m' < m ∧ ForJ K S0 Av F env cx r t wk src body all Q I g1 cells1 s1 m' s4 := fun h4 =>
      ⟨m - 1, by omega, i + 1, es4, g4, by omega, hxs ▸ h4, n7, w5.keep (k7.trans k8).le (w5.sameFr fun o e => (k7.trans k8).av I o hI hNF e), k9⟩
    cases tf with
    | next =>
      have e : fl = _ := rf
      subst e
      exact again h4
    | cont =>
      have e : fl = _ := rf
      subst e
      exact again h4
    | brk =>
      have e : fl = _ := rf
      subst e
      exact out h4 n7 k9 rfl fun a o _ e => e
    | ret => exact rf.elim fun u y => y.1 ▸ out h4 n7 k9 ⟨u, rfl, y.2⟩ fun a o _ e => e
    | exc => exact rf.elim

theorem for_ok {r : Rec} {k : Nat} {cx : Cx} (hB : Base G K) (hr : Snd K S0 k r) {A : Around} (hA : AOk S0 k cx.hn A) {E : Value → Shared → Prop} {t it : Expr} {body : List Stmt} {pos : Pos} {Q : TF → ES → Prop} {P : Flow → Shared → Prop}
    (htop : S0.fr.head? = some env) (hn : cx.hn = true) (hns : ∀ env x, foldedSetIterable it env x = pure x) (h : r.e cx it es fun src es => walks es src fun k xs es => forLoop r cx t k src xs body xs es Q) (n : Now K S0 Av F env cx.sc g es s) (p : PostS K S0 Av F env cx.sc g es s Q P) :
    wpAny (model K.prog K.w) A (exec (.For t it body [] pos) env) P E s := by
  refine wpAny_For (hr.e cx it es _ h A env Av F g s _ _ hA n fun v s1 src es1 g1 h1 n1 k1 r1 => h1.elim fun wk h1 => h1.elim fun all h1 => ?_) (hns env)
  have L := n1.lock src
  refine walk_start hB L.1.inv (r1.mono L.2.le) h1.1 fun o hof w0 => ?_
  have hfresh : s1.heap.get? s1.heap.objs.size = none := get_size _
  have N3 := L.1.enter (N := fun a => a = s1.heap.objs.size) (h' := s1.heap.push o) (tk := s1.toks) (fun a e => e ▸ hfresh) (fun a e => ⟨o, e ▸ Heap.get?_push_size _ hof⟩) (fun a o' e => Heap.get?_push_of_some _ e) (Nat.le_refl _)
  have hNF : ¬ F s1.heap.objs.size := fun z => L.1.inv.offAv hfresh (L.1.env.fsub _ z)
  have off := Off.fresh L.1 hfresh
  have hNA : ∀ a, a = s1.heap.objs.size → ¬ Av a := fun a e => e ▸ L.1.inv.offAv hfresh
  have w1 := w0.keep N3.2 fun _ e => e
  refine codeAny_forLoop_any (ForJ K S0 (fun a => Av a ∨ a = s1.heap.objs.size) F env cx r t wk src body all Q s1.heap.objs.size g1 (lockES es1 src).cells { s1 with heap := s1.heap.push o })
    (fun m s' hJ => turn_ok hr hA hn htop (.inr rfl) hNF off hJ fun q n' k' rf hx => ?_) all.length ⟨0, lockES es1 src, g1, Nat.zero_add _, h1.2, N3.1, w1, .refl⟩
  have N4 := L.1.exit n' (tk := _) hNA (fun a o' ha e => hx a o' ha e) (Nat.le_refl _)
  exact p _ _ _ _ _ q N4.1 ((k1.trans L.2).trans (Kp.out (s := { s1 with heap := s1.heap.push o }) N3.2 (fun a o' e => Heap.get?_push_of_some _ e) (Nat.le_refl _) k' (fun a ha hf => hf.elim id fun e => absurd ha (hNA a e)) N4.2 (fun a o' ha e => hx a o' ha e) hNA (fun a e => e ▸ hfresh) (Nat.le_refl _))) (rf.mono N4.2)
end
end

section
open PySem PySem.W PyProof.Rows

section
variable {G : TG} {K : GK} {S0 : Reg} {Av Av' F : Addr → Prop} {env : Env} {sc : Scope} {g g₁ : Gh} {es es₁ : ES} {s s₁ : Shared} {cells : List Cell} {h' : Heap} {tk : Nat}

theorem while_ok {r : Rec} {k : Nat} {cx : Cx} (hr : Snd K S0 k r) {A : Around} (hA : AOk S0 k cx.hn A) {E : Value → Shared → Prop} {test : Expr} {body orelse : List Stmt} {pos : Pos} {Q : TF → ES → Prop} {P : Flow → Shared → Prop}
    (htop : S0.fr.head? = some env) (h : whileLoop r cx test body orelse es Q) (n : Now K S0 Av F env cx.sc g es s) (p : PostS K S0 Av F env cx.sc g es s Q P) : wpAny (model K.prog K.w) A (exec (.While test body orelse pos) env) P E s :=
  h.elim fun I h => h.elim fun m h => wpAny_While (codeAny_whileLoop (fun j s' => ∃ es' g', I j es' ∧ Now K S0 Av F env cx.sc g' es' s' ∧ Kp Av F g es.cells s g' es'.cells s') (fun j s' hJ => hJ.elim fun es' hJ => hJ.elim fun g' hJ =>
    hr.t cx test es' _ (h.2 j es' hJ.1) A env Av F g' s' _ _ hA hJ.2.1 fun b s1 es1 g1 h1 n1 k1 => by
      cases b with
      | false => exact hr.s cx orelse es1 _ h1 A env Av F g1 s1 _ _ hA htop n1 (fun fl s2 tf es2 g2 h2 n2 k2 rf => p fl s2 tf es2 g2 h2.2 n2 ((hJ.2.2.trans k1).trans k2) rf) fun _ _ _ _ _ _ _ q => False.elim q.1
      | true =>
        refine hr.s cx body es1 _ h1 A env Av F g1 s1 _ _ hA htop n1 (fun fl s2 tf es2 g2 h2 n2 k2 rf => ?_) fun _ _ _ _ _ _ _ q => False.elim q
        have kk := (hJ.2.2.trans k1).trans k2
        have again : (∃ m, m < j ∧ I m es2) → ∃ m', m' < j ∧ ∃ es' g', I m' es' ∧ Now K S0 Av F env cx.sc g' es' s2 ∧ Kp Av F g es.cells s g' es'.cells s2 := Exists.imp fun _ z => ⟨z.1, es2, g2, z.2, n2, kk⟩
        cases tf with
        | next =>
          have e : fl = _ := rf
          subst e
          exact again h2
        | cont =>
          have e : fl = _ := rf
          subst e
          exact again h2
        | brk =>
          have e : fl = _ := rf
          subst e
          exact p .next s2 .next es2 g2 h2 n2 kk rfl
        | ret => exact rf.elim fun u y => y.1 ▸ p _ s2 _ es2 g2 h2 n2 kk ⟨u, rfl, y.2⟩
        | exc => exact rf.elim) m ⟨es, g, h.1, n, .refl⟩)

theorem not_interactive (R : EnvR K.ad (g.wd Av cells s.heap) Av F env sc es.loc s.heap) : interactive env = false := by
  unfold interactive
  rw [R.kind]
  rfl

/-- a value's store into a target that is one -/
theorem asgTgt_ok {r : Rec} {k : Nat} {cx : Cx} (hB : Base G K) (hr : Snd K S0 k r) {A : Around} (hA : AOk S0 k cx.hn A) {E : Value → Shared → Prop} {t : Expr} {x : TV} {v : Value} {Q : ES → Prop} {P : Shared → Prop}
    (h : AsgT G r cx t x es Q) (n : Now K S0 Av F env cx.sc g es s) (rx : Rp K.ad (g.wd Av es.cells s.heap) x v) (p : PostU K S0 Av F env cx.sc g es s Q P) : wpAny (model K.prog K.w) A (assign t env v) (fun _ => P) E s := by
  induction h with
  | name h => exact PySem.wpAny_assign_Name (store_ok n rx h p)
  | tuple hn h => exact bindTgt_ok hA.hand (.tuple hn h) n rx p
  | attr h =>
    rw [arm_assign_Attribute]
    exact wpAny_bind (wpAny_holding (hr.e cx _ es _ h A env Av F g s _ _ hA n fun vo s1 o es1 g1 h1 n1 k1 r1 => h1.elim fun cells' h1 => wpAny_bind (wpAny_standAt (wpAny_bind (wpAny_holding
      (wpAny_mono (setattr_ok (Q := Q) (P := P) hB n1 r1 (rx.mono k1.le) h1.1 h1.2 (p.on k1)) (fun _ _ z => wpAny_release z) fun _ _ z => z))))))
  | sub h =>
    rw [arm_assign_Subscript]
    exact wpAny_bind (wpAny_holding (hr.e cx _ es _ h A env Av F g s _ _ hA n fun vo s1 o es1 g1 h1 n1 k1 r1 => wpAny_bind (wpAny_holding (hr.e cx _ es1 _ h1 A env Av F g1 s1 _ _ hA n1 fun vi s2 i es2 g2 h2 n2 k2 r2 => h2.elim fun cells' h2 => wpAny_bind (wpAny_standAt (wpAny_bind (wpAny_holding
      (wpAny_mono (setitem_ok (P := fun _ => P) n2.inv (r1.mono k2.le) r2 (rx.mono (k1.trans k2).le) h2.1 fun v g' s' i' k' r' => p s' { es2 with cells := cells' } g' h2.2 ⟨i', n2.env.kp k'⟩ ((k1.trans k2).trans (k'.weak fun _ h => h.elim))) (fun _ _ z => wpAny_release z) fun _ _ z => z))))))))
end
end

section
open PySem PySem.W PyProof.Rows

theorem si_iter_entry : entryFor table "set_iterator.__iter__" = some Builtin.«dict_keyiterator.__iter__» :=
  entryFor_alias (id' := "dict_keyiterator.__iter__") (by kernel_rfl) rfl (by decide +kernel) (by kernel_rfl)
theorem si_iter_args (a : Value) : argsOk "set_iterator.__iter__" ⟨[a], []⟩ := by unfold argsOk; kernel_rfl

section
variable {G : TG} {K : GK} {S0 : Reg} {Av Av' F : Addr → Prop} {env : Env} {sc : Scope} {g g₁ : Gh} {es es₁ : ES} {s s₁ : Shared} {cells : List Cell} {h' : Heap} {tk : Nat}

theorem pyIter_setiter {prog : Program} {w : World} {A : Around} {E : Value → Shared → Prop} {I d : Addr} {ep : Nat} {Q : Value → Shared → Prop} (hI : s.heap.get? I = some (setIter d ep)) (h : Q (.ref I) s) : wpAny (model prog w) A (pyIter (.ref I)) Q E s := by
  have hT : s.TypeIs (.ref I) "set_iterator" := ⟨_, hI, rfl⟩
  refine wpAny_pyIter_slot hT si_iter_slot (wpAny_call_entry si_iter_slot hT si_iter_entry ?_ (si_iter_args _))
  show wpAny _ _ (ret (.ref I)) _ _ s
  exact wpAny_pure ⟨_, rfl, "set_iterator", _, hT, si_slot.lookup, h⟩

theorem walk_self {k : WK} {I : Addr} {src : TV} {all : List TV} {i : Nat} {A : Around} {E : Value → Shared → Prop} {P : Value → Shared → Prop} (J : Inv K S0 Av g cells s) (hh : A.handled = none) (hI : ∀ a o, (g.wd Av cells s.heap).V a o → a ≠ I)
    (w : Walk K (g.wd Av cells s.heap) s.heap k I src i) (hst : stands k cells src all) (h : P (.ref I) s) : wpAny (model K.prog K.w) A (pyIter (.ref I)) P E s := by
  replace hst := hst.1
  cases k with
  | list => exact w.elim fun ax w => wpAny_pyIter_listiter w.2 h
  | tup =>
    have hst : src = .tup all := hst
    subst hst
    exact w.elim fun ax w => w.1.tupI.elim fun a q => q.elim fun us q => q.elim fun m q => (Walks.tuple (prog := K.prog) (w := K.w) (A := A) hh I ax (Value.ref.inj q.1 ▸ hI _ _ q.2.1) us.toArray).self i s P E ⟨w.2, _, Value.ref.inj q.1 ▸ q.2.1.1, rfl, _, rfl⟩ h
  | rng =>
    exact hst.elim fun lo z => z.elim fun hi z => z.elim fun st z => w.elim fun lo' w => w.elim fun hi' w => w.elim fun st' w => by
      have e := w.1.symm.trans z.1
      injection e with e1 e2 e3
      subst e1 e2 e3
      refine (Walks.range (prog := K.prog) (w := K.w) (A := A) hh I lo' st' (Builtin.Range.rangeSize lo' hi' st').toNat).self i s P E ?_ h
      show IsRangeIter _ _ _ (((Builtin.Range.rangeSize lo' hi' st').toNat : Int) - i) _
      rw [Int.toNat_of_nonneg z.2.1.2]
      exact w.2
  | keys =>
    exact hst.elim fun j z => z.elim fun kvs z => w.elim fun j' w => w.elim fun d w => w.elim fun m w => w.elim fun ep w => by
      have e := TV.ref.inj (w.1.1.symm.trans z.1)
      subst e
      exact fixD J z.2.1 w.1.2 w.2.1 fun l hat hm q => w.2.1.elim fun o y => y.elim fun es y => (Walks.dictKeys (knd := PySem.strKind K.prog K.w) (A := A) hh I d (hI _ _ y.1) l ep).self i s P E ⟨hm ▸ w.2.2, hat⟩ h
  | vals =>
    exact hst.elim fun j z => z.elim fun kvs z => w.elim fun j' w => w.elim fun d w => w.elim fun m w => w.elim fun ep w => by
      have e := TV.vals.inj (w.1.1.symm.trans z.1)
      subst e
      exact fixD J z.2.1 w.1.2 w.2.1 fun l hat hm q => w.2.1.elim fun o y => y.elim fun es y => (Walks.dictValues (knd := PySem.strKind K.prog K.w) (A := A) hh I d (hI _ _ y.1) l ep).self i s P E ⟨hm ▸ w.2.2, hat⟩ h
  | set => exact w.elim fun j w => w.elim fun d w => w.elim fun ep w => pyIter_setiter w.2.2 h

theorem compStart_any {A : Around} {R : Result → Shared → Prop} {elt : Expr} {gens : List Comprehension} {scope : Scope} {pos : Pos} {depth : Nat} {it acc : Value} {gc : Comprehension} (hg : gens[depth]? = some gc) (ha : gc.is_async = 0)
    (h0 : codeAny (model K.prog K.w) A (.compLoop (.ListComp elt gens scope pos) depth it acc env) R s)
    (h : wpAny (model K.prog K.w) A (pyIter it) (fun it' s' => codeAny (model K.prog K.w) A (.compLoop (.ListComp elt gens scope pos) depth it' acc env) R s')
      (notedBy (model K.prog K.w) A env fun x s' => R (.error x) s') s) :
    codeAny (model K.prog K.w) A (.compStart (.ListComp elt gens scope pos) depth it acc env) R s := by
  refine codeAny_of_tree ?_
  show wpAny _ _ ((compStart (.ListComp elt gens scope pos) depth it acc env).onRaise (fun x => do noteFrame x env; standAt theWindowsPlace)) _ _ s
  refine wpAny_notedAt ?_
  unfold compStart
  have e1 : ((clausesOf (.ListComp elt gens scope pos))[depth]?).elim false (·.is_async != 0) = false := by
    show (gens[depth]?).elim false (·.is_async != 0) = false
    rw [hg]
    show (gc.is_async != 0) = false
    rw [ha]; rfl
  rw [e1, if_neg (by decide)]
  refine wpAny_bind (wpAny_askSetting (wpAny_ite (ite2 (f := fun p : Prop => p) (fun _ => ?_) fun _ => ?_)))
  · exact wpAny_pure (And.intro rfl h0)
  · refine wpAny_bind (wpAny_rule ?_)
    have e2 : (clausesOf (.ListComp elt gens scope pos))[depth]? = some gc := hg
    rw [e2]
    dsimp only
    exact wpAny_bind (wpAny_standAt (wpAny_bind (wpAny_mono h (fun it' s' h' => wpAny_pure (And.intro rfl h')) fun _ _ x => x)))
end
end

section
open PySem PySem.W PyProof.Rows

noncomputable def emitT (elt : Expr) (gens : List Comprehension) (e : Expr) (depth : Nat) (acc : Value) (env : Env) : Sem Unit := match gens[depth + 1]? with
  | some g' => do
    let x ← eval g'.iter env
    standAt g'.iter.pos
    let x ← foldedSetIterable g'.iter env x
    let it ← holding [x] (pyIter x)
    let _ ← runOwn (.compStart e (depth + 1) it acc env) env
    pure ()
  | none => do let _ ← call (.builtin "list.append") [acc, ← eval elt env]

theorem compTurn_eq {elt : Expr} {gens : List Comprehension} {sc : Scope} {pos : Pos} {depth : Nat} {it acc : Value} {env : Env} {g : Comprehension} (hg : gens[depth]? = some g) (ha : g.is_async = 0) (h2 : ∀ g', gens[depth + 1]? = some g' → g'.is_async = 0) :
    compTurn (.ListComp elt gens sc pos) depth it acc env = (do
      standAt g.iter.pos
      match ← pyNext it with
      | none => pure (.done .next)
      | some v => do
        letOwnedTupleGo g.target it v
        assign g.target env v
        let ok ← forIn g.ifs true fun c b => if b = true then (do let ok ← isTrue c env (eval c env); pure (ForInStep.yield ok)) else pure (ForInStep.yield b)
        if ok = true then do
          emitT elt gens (.ListComp elt gens sc pos) depth acc env
          again (.compLoop (.ListComp elt gens sc pos) depth it acc env)
        else again (.compLoop (.ListComp elt gens sc pos) depth it acc env)) := by
  unfold compTurn
  dsimp only
  rw [hg]
  dsimp only
  rw [ha]
  have e0 : ((0 : Int) != 0) = false := rfl
  unfold emitT
  cases h : gens[depth + 1]? with
  | none => rfl
  | some g' =>
    dsimp only
    rw [h2 g' h, e0]
    simp only [Bool.false_eq_true, if_false, bind_assoc, pure_bind]
    rfl

section
variable {G : TG} {K : GK} {S0 : Reg} {Av Av' F : Addr → Prop} {env : Env} {sc : Scope} {g g₁ : Gh} {es es₁ : ES} {s s₁ : Shared} {cells : List Cell} {h' : Heap} {tk : Nat}

/-- the list that is being gathered -/
noncomputable def AccAt (K : GK) (W : Wd) (h : Heap) (D : Addr) (xs : List TV) : Prop := ∃ us n, h.get? D = some (listObj us n) ∧ RpL K.ad W xs us
theorem AccAt.keep' {W W' : Wd} {h h' : Heap} {D : Addr} {xs : List TV} (a : AccAt K W h D xs) (le : W.Le W') (hk : ∀ o, h.get? D = some o → ∃ o', h'.get? D = some o' ∧ SameFr o o') : AccAt K W' h' D xs :=
  a.imp fun us => Exists.imp fun n z => ⟨(hk _ z.1).elim fun o' y => (y.2.eq_of (show ∀ es ep, (listObj us n).data ≠ .dict es ep from fun _ _ => nofun) : o' = _) ▸ y.1, RpL.mono le z.2⟩
theorem AccAt.keep {W W' : Wd} {h h' : Heap} {D : Addr} {xs : List TV} (a : AccAt K W h D xs) (le : W.Le W') (hk : ∀ o, h.get? D = some o → h'.get? D = some o) : AccAt K W' h' D xs :=
  a.keep' le fun o e => ⟨o, hk o e, .inl rfl⟩

theorem ifs_false : ∀ cs : List Expr, (forIn cs false fun c b => if b = true then (do let ok ← isTrue c env (eval c env); pure (ForInStep.yield ok)) else pure (ForInStep.yield b) : Sem Bool) = pure false := by
  intro cs
  induction cs with
  | nil => rfl
  | cons c cs ih => rw [List.forIn_cons, if_neg Bool.false_ne_true, pure_bind]; exact ih

theorem ifs_ok {r : Rec} {k : Nat} {cx : Cx} (hr : SndT K S0 k r.t) {A : Around} (hA : AOk S0 k cx.hn A) {E : Value → Shared → Prop} {P : Bool → Shared → Prop} (cs : List Expr) : ∀ {g : Gh} {es : ES} {s : Shared} {Q : Bool → ES → Prop},
    evIfs r cx cs es Q → Now K S0 Av F env cx.sc g es s → PostT K S0 Av F env cx.sc g es s Q P →
    wpAny (model K.prog K.w) A (forIn cs true fun c b => if b = true then (do let ok ← isTrue c env (eval c env); pure (ForInStep.yield ok)) else pure (ForInStep.yield b)) P E s := by
  induction cs with
  | nil =>
    intro g es s Q h n p
    rw [List.forIn_nil]
    exact wpAny_pure (p true s es g h n .refl)
  | cons c cs ih =>
    intro g es s Q h n p
    rw [List.forIn_cons, if_pos rfl]
    refine wpAny_bind (wpAny_bind (hr cx c es _ h A env Av F g s _ _ hA n fun b s1 es1 g1 h1 n1 k1 => wpAny_pure ?_))
    cases b with
    | true => exact ih h1 n1 (p.on k1)
    | false =>
      show wpAny _ A (forIn cs false _) P E s1
      rw [ifs_false]
      exact wpAny_pure (p false s1 es1 g1 h1 n1 k1)

/-- what a turn's last part must do -/
noncomputable def EmitOk (K : GK) (S0 : Reg) (F : Addr → Prop) (env : Env) (A : Around) (sc : Scope) (D : Addr) (top : Nat) (inner : ES → (List TV → ES → Prop) → Prop) (tree : Sem Unit) : Prop :=
  ∀ (Av : Addr → Prop) (g : Gh) (es : ES) (s : Shared) (Q : List TV → ES → Prop) (P : Shared → Prop) (pre : List TV) (E : Value → Shared → Prop), inner es Q → Now K S0 Av F env sc g es s → Av D → ¬ F D → Off S0 env sc D → AccAt K (g.wd Av es.cells s.heap) s.heap D pre → pre.length ≤ top →
    (∀ vs es' g' s', Q vs es' → Now K S0 Av F env sc g' es' s' → Kp Av (fun a => F a ∨ a = D) g es.cells s g' es'.cells s' → AccAt K (g'.wd Av es'.cells s'.heap) s'.heap D (pre ++ vs) → P s') → wpAny (model K.prog K.w) A tree (fun _ => P) E s

/-- what a comprehension's turns keep -/
noncomputable def GenJ (K : GK) (S0 : Reg) (Av F : Addr → Prop) (env : Env) (cx : Cx) (r : Rec) (gc : Comprehension) (wk : WK) (src : TV) (inner : ES → (List TV → ES → Prop) → Prop) (all pre : List TV) (Q : List TV → ES → Prop) (I D : Addr) (g1 : Gh) (cells1 : List Cell) (s1 : Shared) (m : Nat) (s' : Shared) : Prop :=
  ∃ (i : Nat) (es' : ES) (g' : Gh) (acc : List TV) (_ : i + m = all.length) (_ : acc.length ≤ lim), genLoop r cx gc wk src all inner (all.drop i) es' acc Q ∧ Now K S0 Av F env cx.sc g' es' s' ∧
    Walk K (g'.wd Av es'.cells s'.heap) s'.heap wk I src i ∧ Kp Av (fun a => (F a ∨ a = D) ∨ a = I) g1 cells1 s1 g' es'.cells s' ∧ AccAt K (g'.wd Av es'.cells s'.heap) s'.heap D (pre ++ acc)

theorem comp_core {r : Rec} {k : Nat} {cx : Cx} (hr : Snd K S0 k r) {A : Around} (hA : AOk S0 k cx.hn A) (hn : cx.hn = true) {elt : Expr} {gens : List Comprehension} {sc0 : Scope} {pos0 : Pos} {D I : Addr} {depth : Nat} {gc : Comprehension} (hg : gens[depth]? = some gc) (ha : gc.is_async = 0)
    (h2 : ∀ g', gens[depth + 1]? = some g' → g'.is_async = 0) {inner : ES → (List TV → ES → Prop) → Prop}
    (hem : EmitOk K S0 F env A cx.sc D ((depth + 1) * lim) inner (emitT elt gens (.ListComp elt gens sc0 pos0) depth (.ref D) env))
    {Q : List TV → ES → Prop} {R : Result → Shared → Prop} {wk : WK} {src : TV} {all pre : List TV} (hI : Av I) (hNF : ¬ F I) (off : Off S0 env cx.sc I) (hD : Av D) (hDF : ¬ F D) (offD : Off S0 env cx.sc D) (hDI : D ≠ I)
    (n3 : Now K S0 Av F env cx.sc g es s) (w1 : Walk K (g.wd Av es.cells s.heap) s.heap wk I src 0) (hst3 : stands wk es.cells src all) (hloop : genLoop r cx gc wk src all inner all es [] Q) (acc1 : AccAt K (g.wd Av es.cells s.heap) s.heap D pre) (hpre : pre.length ≤ depth * lim)
    (out : ∀ {g' : Gh} {es' : ES} {s' : Shared} {vs : List TV} {h' : Heap}, Q vs es' → Now K S0 Av F env cx.sc g' es' s' → Kp Av (fun a => (F a ∨ a = D) ∨ a = I) g es.cells s g' es'.cells s' →
      AccAt K (g'.wd Av es'.cells s'.heap) s'.heap D (pre ++ vs) → Heap.ExtBut I s'.heap h' → R (.ok .next) { s' with heap := h' }) :
    codeAny (model K.prog K.w) A (.compStart (.ListComp elt gens sc0 pos0) depth (.ref I) (.ref D) env) R s := by
  have hh := hA.hand hn
  have loop0 : codeAny (model K.prog K.w) A (.compLoop (.ListComp elt gens sc0 pos0) depth (.ref I) (.ref D) env) R s := by
    refine codeAny_loop' rfl (GenJ K S0 Av F env cx r gc wk src inner all pre Q I D g es.cells s) (fun m s' hJ => ?_) all.length ⟨0, es, g, [], Nat.zero_add _, Nat.zero_le _, hloop, n3, w1, .refl, (List.append_nil pre).symm ▸ acc1⟩
    refine hJ.elim fun i h => h.elim fun es' h => h.elim fun g' h => h.elim fun acc h => h.elim fun him h => h.elim fun hal z => ?_
    show wpAny _ A ((compTurn (.ListComp elt gens sc0 pos0) depth (.ref I) (.ref D) env).onRaise (fun x => do noteFrame x env; theTreesLotGoes x)) _ _ s'
    refine wpAny_noted ?_
    rw [compTurn_eq hg ha h2]
    refine wpAny_bind (wpAny_standAt (wpAny_bind ?_))
    have hd := z.1
    cases e : all.drop i with
    | nil =>
      rw [e] at hd
      have hi : i = all.length := Nat.le_antisymm (him ▸ Nat.le_add_right i m) (List.drop_eq_nil_iff.mp e)
      subst hi
      exact walk_end z.2.1.inv hh z.2.2.1 hd.1 fun h' hx => wpAny_pure (out hd.2 z.2.1 z.2.2.2.1 z.2.2.2.2 hx)
    | cons x xs =>
      rw [e] at hd
      have hx := (drop_at e).1
      have hxs := (drop_at e).2
      have hlt : i < all.length := (List.getElem?_eq_some_iff.mp hx).1
      refine walk_next z.2.1 hI hNF off z.2.2.1 hd.1 hx fun v s2 n5 k5 r5 w5 => wpAny_bind (letGo_ok w5 hd.2 r5 (wpAny_bind (bindTgt_ok (fun _ => hh) hd.2 n5 r5 fun s3 es3 g3 h3 n6 k7 => wpAny_bind (ifs_ok hr.t hA _ h3 n6 fun b s4 es4 g4 h4 n7 k8 => ?_))))
      have k9 := ((z.2.2.2.1.trans (k5.weak fun a e => .inr e)).trans (k7.weak fun a e => .inl (.inl e))).trans (k8.weak fun a e => .inl (.inl e))
      have kI := k7.trans k8
      have w7 := w5.keep kI.le (w5.sameFr fun o e => kI.av I o hI hNF e)
      have ra7 := (z.2.2.2.2.keep' k5.le fun o e => k5.av D o hD hDI e).keep' kI.le fun o e => kI.av D o hD hDF e
      have down : m - 1 < m ∧ i + 1 + (m - 1) = all.length := by omega
      cases b with
      | false => exact wpAny_pure (.inl ⟨rfl, m - 1, down.1, i + 1, es4, g4, acc, down.2, hal, hxs ▸ h4, n7, w7, k9, ra7⟩)
      | true =>
        refine wpAny_bind (hem _ g4 es4 s4 (fun vs es => (acc ++ vs).length ≤ lim ∧ genLoop r cx gc wk src all inner xs es (acc ++ vs) Q) _ (pre ++ acc) _ h4 n7 hD hDF offD ra7 ?_ fun vs es5 g5 s5 hq n8 k10 ra8 => ?_)
        · rw [List.length_append, Nat.succ_mul]
          exact Nat.add_le_add hpre hal
        · exact wpAny_pure (.inl ⟨rfl, m - 1, down.1, i + 1, es5, g5, acc ++ vs, down.2, hq.1, hxs ▸ hq.2, n8, w7.keep k10.le (w7.sameFr fun o e => k10.av I o hI (fun z => z.elim hNF fun z => hDI z.symm) e), k9.trans (k10.weak fun a e => .inl e), List.append_assoc .. ▸ ra8⟩)
  exact compStart_any hg ha loop0 (walk_self n3.inv hh (fun a o' hV e => hV.2.1 (e ▸ hI)) w1 hst3 loop0)

theorem comp_loop {r : Rec} {k : Nat} {cx : Cx} (hB : Base G K) (hr : Snd K S0 k r) {A : Around} (hA : AOk S0 k cx.hn A) (hn : cx.hn = true) {elt : Expr} {gens : List Comprehension} {sc0 : Scope} {pos0 : Pos} {D : Addr} {depth : Nat} {gc : Comprehension} (hg : gens[depth]? = some gc) (ha : gc.is_async = 0)
    (h2 : ∀ g', gens[depth + 1]? = some g' → g'.is_async = 0) {inner : ES → (List TV → ES → Prop) → Prop}
    (hem : EmitOk K S0 F env A cx.sc D ((depth + 1) * lim) inner (emitT elt gens (.ListComp elt gens sc0 pos0) depth (.ref D) env))
    {Q : List TV → ES → Prop} {R : Result → Shared → Prop} {v : Value} {src : TV} {pre : List TV} {E : Value → Shared → Prop}
    (h : walks es src (fun wk xs es => genLoop r cx gc wk src xs inner xs es [] Q)) (n : Now K S0 Av F env cx.sc g es s) (hD : Av D) (hDF : ¬ F D) (offD : Off S0 env cx.sc D) (rv : Rp K.ad (g.wd Av es.cells s.heap) src v) (acc0 : AccAt K (g.wd Av es.cells s.heap) s.heap D pre) (hpre : pre.length ≤ depth * lim)
    (p : ∀ vs es' g' s', Q vs es' → Now K S0 Av F env cx.sc g' es' s' → Kp Av (fun a => F a ∨ a = D) g es.cells s g' es'.cells s' → AccAt K (g'.wd Av es'.cells s'.heap) s'.heap D (pre ++ vs) → R (.ok .next) s') :
    wpAny (model K.prog K.w) A (pyIter v) (fun it s2 => codeAny (model K.prog K.w) A (.compStart (.ListComp elt gens sc0 pos0) depth it (.ref D) env) R s2) E s := by
  refine h.elim fun wk h => h.elim fun all h => ?_
  have L := n.lock src
  refine walk_start hB L.1.inv (rv.mono L.2.le) h.1 fun o hof w0 => ?_
  have hfresh : s.heap.get? s.heap.objs.size = none := get_size _
  have N3 := L.1.enter (N := fun a => a = s.heap.objs.size) (h' := s.heap.push o) (tk := s.toks) (fun a e => e ▸ hfresh) (fun a e => ⟨o, e ▸ Heap.get?_push_size _ hof⟩) (fun a o' e => Heap.get?_push_of_some _ e) (Nat.le_refl _)
  have hNA : ∀ a, a = s.heap.objs.size → ¬ Av a := fun a e => e ▸ L.1.inv.offAv hfresh
  have hDI : D ≠ s.heap.objs.size := fun e => hNA D e hD
  refine comp_core hr hA hn hg ha h2 hem (.inr rfl) (fun z => L.1.inv.offAv hfresh (L.1.env.fsub _ z)) (Off.fresh L.1 hfresh) (.inl hD) hDF offD hDI N3.1 (w0.keep N3.2 fun _ e => e) h.1 h.2 ((acc0.keep L.2.le fun _ e => e).keep N3.2 fun o' e => Heap.get?_push_of_some _ e) hpre
    fun q n' k' ra hx => ?_
  have N4 := L.1.exit n' (tk := _) hNA (fun a o' ha e => hx a o' ha e) (Nat.le_refl _)
  exact p _ _ _ _ q N4.1 ((L.2.weak fun a e => .inl e).trans (Kp.out (s := { s with heap := s.heap.push o }) N3.2 (fun a o' e => Heap.get?_push_of_some _ e) (Nat.le_refl _) k' (fun a ha hf => hf.elim id fun e => absurd ha (hNA a e)) N4.2 (fun a o' ha e => hx a o' ha e) hNA (fun a e => e ▸ hfresh) (Nat.le_refl _)))
    (ra.keep N4.2 fun o' e => hx D o' hDI e)

theorem emit_elt {r : Rec} {k : Nat} {cx : Cx} (hr : Snd K S0 k r) {A : Around} (hA : AOk S0 k cx.hn A) {elt : Expr} {gens : List Comprehension} {e : Expr} {D : Addr} {depth : Nat} (hd : depth + 1 ≤ 10) (hg : gens[depth + 1]? = none) :
    EmitOk K S0 F env A cx.sc D ((depth + 1) * lim) (evGens r cx elt []) (emitT elt gens e depth (.ref D) env) := by
  intro Av g es s Q P pre E h n hD hDF off acc hpre p
  unfold emitT
  rw [hg]
  refine wpAny_bind (hr.e cx elt es _ h A env Av F g s _ _ hA n fun v s1 tv es1 g1 h1 n1 k1 r1 => (acc.keep' k1.le fun o e => k1.av D o hD hDF e).elim fun us z => z.elim fun m z => ?_)
  have hsz : us.toArray.size ≤ sizeLine := Nat.le_trans (Nat.le_of_eq z.2.length) (Nat.le_trans hpre (Nat.le_trans (Nat.mul_le_mul_right _ hd) (by decide)))
  exact wpAny_bind (call_meets PySem.F.slot_list_append ⟨_, z.1, rfl⟩ PySem.F.entry_list_append (PySem.F.args_list_append_2 _ _) (list_append D us.toArray m v hsz) ⟨z.1, (isL_update (us := us ++ [v]) z.1 (fun x => x.push v) (List.push_toArray _ _)).elim fun m' e' =>
    have N := n1.setI hD hDF off (h' := s1.heap.update D (Obj.mapSeq fun x => x.push v)) (tk := s1.toks) (Heap.SameBut.update ..) ⟨_, e'⟩ (Nat.le_refl _)
    wpAny_pure (p [tv] es1 g1 _ h1 N.1 ((k1.weak fun a e => .inl e).trans (N.2.weak fun a e => .inr e)) ⟨_, _, e', (RpL.mono N.2.le z.2).append (.one (r1.mono N.2.le))⟩)⟩)

/-- the clauses from one on do -/
noncomputable def ClauseOk (K : GK) (S0 : Reg) (F : Addr → Prop) (env : Env) (A : Around) (cx : Cx) (r : Rec) (elt : Expr) (gens : List Comprehension) (sc0 : Scope) (pos0 : Pos) (D : Addr) (rest : List Comprehension) : Prop :=
    ∀ {depth : Nat} {gc : Comprehension} {Av : Addr → Prop} {g : Gh} {es : ES} {s : Shared} {Q : List TV → ES → Prop} {R : Result → Shared → Prop} {v : Value} {src : TV} {pre : List TV} {E : Value → Shared → Prop},
    gens.drop depth = gc :: rest → gc.is_async = 0 → (∀ g ∈ rest, g.is_async = 0) → walks es src (fun wk xs es => genLoop r cx gc wk src xs (evGens r cx elt rest) xs es [] Q) →
    Now K S0 Av F env cx.sc g es s → Av D → ¬ F D → Off S0 env cx.sc D → Rp K.ad (g.wd Av es.cells s.heap) src v → AccAt K (g.wd Av es.cells s.heap) s.heap D pre → pre.length ≤ depth * lim →
    (∀ vs es' g' s', Q vs es' → Now K S0 Av F env cx.sc g' es' s' → Kp Av (fun a => F a ∨ a = D) g es.cells s g' es'.cells s' → AccAt K (g'.wd Av es'.cells s'.heap) s'.heap D (pre ++ vs) → R (.ok .next) s') →
    wpAny (model K.prog K.w) A (pyIter v) (fun it s2 => codeAny (model K.prog K.w) A (.compStart (.ListComp elt gens sc0 pos0) depth it (.ref D) env) R s2) E s

theorem emit_cons {r : Rec} {k : Nat} {cx : Cx} (hr : Snd K S0 k r) {A : Around} (hA : AOk S0 k cx.hn A) {elt : Expr} {gens : List Comprehension} {sc0 : Scope} {pos0 : Pos} {D : Addr} {rest : List Comprehension} (ih : ClauseOk K S0 F env A cx r elt gens sc0 pos0 D rest) {depth : Nat} {g2 : Comprehension}
    (hdr2 : gens.drop (depth + 1) = g2 :: rest) (har : ∀ g ∈ g2 :: rest, g.is_async = 0) : EmitOk K S0 F env A cx.sc D ((depth + 1) * lim) (evGens r cx elt (g2 :: rest)) (emitT elt gens (.ListComp elt gens sc0 pos0) depth (.ref D) env) := by
  intro Av g es s Q P pre E h n hD hDF off acc hpre p
  unfold emitT
  rw [(drop_at hdr2).1]
  exact wpAny_bind (hr.e cx _ es _ h.2 A env Av F g s _ _ hA n fun v s1 tv es1 g1 h1 n1 k1 r1 => wpAny_bind (wpAny_standAt (wpAny_bind (wpAny_of_eq (h.1 env v) (wpAny_bind (wpAny_holding
    (wpAny_mono (ih (R := fun r s' => r = .ok .next ∧ P s') hdr2 (har _ (.head _)) (fun g hg => har g (.tail _ hg)) h1 n1 hD hDF off r1 (acc.keep' k1.le fun o e => k1.av D o hD hDF e) hpre fun vs es' g' s' q n' k' a' => ⟨rfl, p vs es' g' s' q n' ((k1.weak fun a e => .inl e).trans k') a'⟩)
      (fun it s2 hc => wpAny_bind (wpAny_runOwn (codeAny_mono hc fun r s' hr' => hr'.1 ▸ wpAny_pure hr'.2))) fun _ _ z => z)))))))

theorem comp_clause {r : Rec} {k : Nat} {cx : Cx} (hB : Base G K) (hr : Snd K S0 k r) {A : Around} (hA : AOk S0 k cx.hn A) (hn : cx.hn = true) {elt : Expr} {gens : List Comprehension} {sc0 : Scope} {pos0 : Pos} {D : Addr} (hgl : gens.length ≤ 10) (rest : List Comprehension) : ClauseOk K S0 F env A cx r elt gens sc0 pos0 D rest := by
  induction rest with
  | nil =>
    intro depth gc Av g es s Q R v src pre E hdr ha _
    have hlt : depth < gens.length := (List.getElem?_eq_some_iff.mp (drop_at hdr).1).1
    have hg2 : gens[depth + 1]? = none := List.getElem?_eq_none (List.drop_eq_nil_iff.mp (drop_at hdr).2)
    exact comp_loop hB hr hA hn (drop_at hdr).1 ha (fun g' e => noneE (hg2.symm.trans e)) (emit_elt hr hA (Nat.le_trans hlt hgl) hg2)
  | cons g2 rest ih =>
    intro depth gc Av g es s Q R v src pre E hdr ha har
    have hdr2 := (drop_at hdr).2
    exact comp_loop hB hr hA hn (drop_at hdr).1 ha (fun g' e => Option.some.inj ((drop_at hdr2).1.symm.trans e) ▸ har g2 (.head _)) (emit_cons hr hA ih hdr2 har)
end
end

section
open PySem PySem.W PyProof.Rows

theorem closure_fold {env : Env} (names : List (Str × NameKind)) : ∀ (acc : List (Str × Addr)), (∀ x, (x, NameKind.free) ∈ names → ∃ a, env.cells.lookup x = some a) →
    ∃ cl, (forIn names acc fun (p : Str × NameKind) cs => (if p.2 == NameKind.free then (do let a ← cellOf env p.1; pure (ForInStep.yield ((p.1, a) :: cs))) else pure (ForInStep.yield cs) : Sem (ForInStep (List (Str × Addr))))) = pure (cl ++ acc) ∧
      (∀ x a, (x, a) ∈ cl → env.cells.lookup x = some a) ∧ ∀ x, (x, NameKind.free) ∈ names → ∃ a, (x, a) ∈ cl := by
  induction names with
  | nil => exact fun acc _ => ⟨[], rfl, (fun _ _ h => nomatch h), fun _ h => nomatch h⟩
  | cons p names ih =>
    intro acc h
    cases hk : p.2 == NameKind.free with
    | true =>
      exact (h p.1 (List.mem_cons.mpr (.inl (Prod.ext rfl (eq_of_beq hk).symm)))).elim fun a ha => (ih ((p.1, a) :: acc) fun x hx => h x (.tail _ hx)).elim fun cl z => ⟨cl ++ [(p.1, a)], by
          rw [List.forIn_cons, if_pos hk, show cellOf env p.1 = pure a by unfold cellOf; rw [ha], pure_bind, pure_bind, List.append_assoc]
          exact z.1,
        fun x b hb => (List.mem_append.mp hb).elim (z.2.1 x b) fun w =>
          have q := Prod.mk.inj (List.mem_singleton.mp w)
          q.1 ▸ q.2 ▸ ha,
        fun x hx => (List.mem_cons.mp hx).elim (fun w => ⟨a, List.mem_append_right _ (List.mem_singleton.mpr (Prod.ext (show x = p.1 from congrArg Prod.fst w) rfl))⟩) fun w => (z.2.2 x w).imp fun _ => List.mem_append_left _⟩
    | false =>
      have hk' : ¬ (p.2 == NameKind.free) = true := fun e => Bool.false_ne_true (hk.symm.trans e)
      exact (ih acc fun x hx => h x (.tail _ hx)).elim fun cl z => ⟨cl, by
          rw [List.forIn_cons, if_neg hk', pure_bind]
          exact z.1,
        z.2.1, fun x hx => (List.mem_cons.mp hx).elim (fun w => absurd (beq_iff_eq.mpr (congrArg Prod.snd w).symm) hk') (z.2.2 x)⟩

theorem closure_ok {env : Env} {scope : Scope} (h : ∀ x, (x, NameKind.free) ∈ scope.names → ∃ a, env.cells.lookup x = some a) :
    ∃ cl, closureFor scope env = pure cl ∧ (∀ x a, (x, a) ∈ cl → env.cells.lookup x = some a) ∧ ∀ x, (x, NameKind.free) ∈ scope.names → ∃ a, (x, a) ∈ cl :=
  (closure_fold scope.names [] h).imp fun cl z => ⟨(congrArg (· >>= pure) (List.append_nil cl ▸ z.1)).trans (pure_bind _ _), z.2⟩

theorem compEnv_ok {M : Model} {A : Around} {E : Value → Shared → Prop} {s : Shared} {scope : Scope} {cl : List (Str × Addr)} {env : Env} {Q : Env → Shared → Prop}
    (h : Q { scope, locals := s.heap.objs.size, globals := env.globals, cells := cellsFrom (s.heap.objs.size + 1) scope.names cl, qual := env.qual, func := none, code := env.code, frame := env.frame, builtins := env.builtins }
      { s with heap := pushCells (s.heap.push { cls := .type "dict", data := .dict #[] }) scope.names }) :
    wpAny M A (newFunctionEnv scope env.globals cl [] env.qual none .none (some env)) Q E s := by
  simp only [newFunctionEnv, Option.isSome_some, if_true]
  refine wpAny_bind (wpAny_alloc ?_)
  refine wpAny_bind (wpAny_layCells _ (fun name kind cells => by cases hkc : kind == NameKind.cell <;> simp [hkc]) _ _ _ _ ?_)
  rw [show ({ s with heap := s.heap.push { cls := .type "dict", data := .dict #[] } } : Shared).heap.objs.size = s.heap.objs.size + 1 from Heap.size_push ..]
  rw [List.forIn_nil]
  exact wpAny_bind (wpAny_pure (wpAny_pure h))

theorem cellsFrom_append (names : List (Str × NameKind)) : ∀ (n : Nat) (acc : List (Str × Addr)), cellsFrom n names acc = cellsFrom n names [] ++ acc := by
  induction names with
  | nil => exact fun _ _ => rfl
  | cons p names ih =>
    intro n acc
    show (if p.2 == .cell then cellsFrom (n + 1) names ((p.1, n) :: acc) else cellsFrom n names acc) = (if p.2 == .cell then cellsFrom (n + 1) names [(p.1, n)] else cellsFrom n names []) ++ acc
    cases p.2 == .cell with
    | true =>
      show cellsFrom (n + 1) names ((p.1, n) :: acc) = cellsFrom (n + 1) names [(p.1, n)] ++ acc
      rw [ih, ih (n + 1) [_], List.append_assoc]
      rfl
    | false => exact ih n acc
theorem cellsFrom_mem (names : List (Str × NameKind)) : ∀ (n : Nat) {x : Str}, (x, NameKind.cell) ∈ names → ∃ a, (x, a) ∈ cellsFrom n names [] := by
  induction names with
  | nil => exact fun _ _ h => nomatch h
  | cons p names ih =>
    intro n x h
    show ∃ a, (x, a) ∈ (if p.2 == .cell then cellsFrom (n + 1) names [(p.1, n)] else cellsFrom n names [])
    exact ite2 (f := fun l => ∃ a, (x, a) ∈ l) (fun _ => cellsFrom_append .. ▸ (List.mem_cons.mp h).elim (fun e => ⟨n, List.mem_append_right _ (List.mem_singleton.mpr (Prod.ext (show x = p.1 from congrArg Prod.fst e) rfl))⟩) fun h => (ih (n + 1) h).imp fun _ => List.mem_append_left _)
      fun c => (List.mem_cons.mp h).elim (fun e => absurd (beq_iff_eq.mpr (congrArg Prod.snd e).symm) c) (ih n)
theorem cellsFrom_names (names : List (Str × NameKind)) : ∀ (n : Nat) {x : Str} {a : Addr}, (x, a) ∈ cellsFrom n names [] → (x, NameKind.cell) ∈ names := by
  induction names with
  | nil => exact fun _ _ _ h => nomatch h
  | cons p names ih =>
    intro n x a
    show (x, a) ∈ (if p.2 == .cell then cellsFrom (n + 1) names [(p.1, n)] else cellsFrom n names []) → _
    refine ite2 (f := fun l => (x, a) ∈ l → _) (fun c h => ?_) fun _ h => .tail _ (ih n h)
    rw [cellsFrom_append] at h
    exact (List.mem_append.mp h).elim (fun h => .tail _ (ih (n + 1) h)) fun h => List.mem_cons.mpr (.inl (Prod.ext (Prod.mk.inj (List.mem_singleton.mp h)).1 (eq_of_beq c).symm))

theorem mem_of_lookup' {α : Type} {l : List (Str × α)} {x : Str} {a : α} (h : l.lookup x = some a) : (x, a) ∈ l := PySem.mem_of_lookup h
theorem lookup_none_of {α : Type} {l : List (Str × α)} {x : Str} (h : ∀ a, (x, a) ∉ l) : l.lookup x = none := by
  cases e : l.lookup x with
  | none => rfl
  | some b => exact absurd (mem_of_lookup' e) (h b)
theorem lookup_some_of {α : Type} {l : List (Str × α)} {x : Str} {a : α} (h : (x, a) ∈ l) : ∃ b, l.lookup x = some b := by
  cases e : l.lookup x with
  | some b => exact ⟨b, rfl⟩
  | none => exact absurd (beq_iff_eq.mpr rfl) (Bool.eq_false_iff.mp (Bool.not_eq_true' _ ▸ List.lookup_eq_none_iff.mp e _ h))
theorem lookup_of_mem {α : Type} {l : List (Str × α)} {x : Str} {a : α} (hn : (l.map (·.1)).Nodup) (h : (x, a) ∈ l) : l.lookup x = some a := by
  refine (lookup_some_of h).elim fun b e => e.trans (congrArg some ?_)
  have hb := mem_of_lookup' e
  clear e
  induction l with
  | nil => exact nomatch h
  | cons p l ih =>
    have hn := List.nodup_cons.mp hn
    have no : ∀ {c : α}, (x, c) ∈ l → p.1 ≠ x := fun m z => hn.1 (List.mem_map.mpr ⟨_, m, z.symm⟩)
    exact (List.mem_cons.mp h).elim (fun w => (List.mem_cons.mp hb).elim (fun w' => (Prod.mk.inj (w'.trans w.symm)).2) fun w' => absurd (congrArg Prod.fst w).symm (no w'))
      fun w => (List.mem_cons.mp hb).elim (fun w' => absurd (congrArg Prod.fst w').symm (no w)) fun w' => ih hn.2 w w'
theorem ap_hit {α : Type} {l l' : List (Str × α)} {x : Str} {a : α} (h : l.lookup x = some a) : (l ++ l').lookup x = some a := by rw [List.lookup_append, h]; rfl
theorem ap_miss {α : Type} {l l' : List (Str × α)} {x : Str} (h : l.lookup x = none) : (l ++ l').lookup x = l'.lookup x := by rw [List.lookup_append, h]; rfl
end

section
open PySem PySem.W PyProof.Rows

theorem map_lookup {f : Str × NameKind → Str × NameKind} {gk : Str → NameKind → NameKind} (hf : ∀ p, f p = (p.1, gk p.1 p.2)) (names : List (Str × NameKind)) (x : Str) : (names.map f).lookup x = (names.lookup x).map (gk x) := by
  induction names with
  | nil => rfl
  | cons p names ih =>
    rw [List.map_cons, hf p]
    show (match x == p.1 with | true => some (gk p.1 p.2) | false => (names.map f).lookup x) = Option.map (gk x) (match x == p.1 with | true => some p.2 | false => names.lookup x)
    cases e : x == p.1 with
    | true => exact congrArg (fun y => some (gk y p.2)) (eq_of_beq e).symm
    | false => exact ih

section
variable {G : TG} {K : GK} {S0 : Reg} {Av Av' F : Addr → Prop} {env : Env} {sc sc' : Scope} {g g₁ : Gh} {es es₁ : ES} {s s₁ : Shared} {cells : List Cell} {h' : Heap} {tk : Nat}

theorem scope_kind (h : scopeOk sc sc' = true) : sc'.kind = .function := eq_of_beq (Bool.and_eq_true_iff.mp (Bool.and_eq_true_iff.mp h).1).1
theorem scope_nodup (h : scopeOk sc sc' = true) : (sc'.names.map (·.1)).Nodup := of_decide_eq_true (Bool.and_eq_true_iff.mp (Bool.and_eq_true_iff.mp h).1).2
theorem scope_free (h : scopeOk sc sc' = true) {x : Str} (hx : (x, NameKind.free) ∈ sc'.names) : sc.names.lookup x = some .cell ∨ sc.names.lookup x = some .free :=
  (Bool.or_eq_true_iff.mp (List.all_eq_true.mp (Bool.and_eq_true_iff.mp h).2 _ hx)).elim (fun z => absurd (show false = true from z) Bool.false_ne_true) fun z => (Bool.or_eq_true_iff.mp z).imp eq_of_beq eq_of_beq

theorem inner_free {loc : Str → Option TV} {x : Str} {tv : TV} (hx : sc'.names.lookup x = some .free) (h : inner sc' loc x = some tv) : loc x = some tv := (if_pos hx).symm.trans h
theorem inner_not {loc : Str → Option TV} {x : Str} {tv : TV} {P : Prop} (hx : sc'.names.lookup x ≠ some .free) (h : inner sc' loc x = some tv) : P := noneE ((if_neg hx).symm.trans h)

theorem inner_env {W W' : Wd} {h : Heap} {loc : Str → Option TV} {cl own : List (Str × Addr)} {N : Addr → Prop} {C : Addr} {qual : Str} (R : EnvR K.ad W Av F env sc loc h) (le : W.Le W') (hk : ∀ a o, h.get? a = some o → h'.get? a = some o) (hok : scopeOk sc sc' = true)
    (hcl1 : ∀ x a, (x, a) ∈ cl → env.cells.lookup x = some a) (hcl2 : ∀ x, (x, NameKind.free) ∈ sc'.names → ∃ a, (x, a) ∈ cl) (hC : h'.Ns C fun _ => none) (hNC : N C)
    (hown : ∀ x a, (x, a) ∈ own → h'.IsCell a none ∧ N a ∧ a ≠ C) (hap : own.Pairwise fun x y => x.2 ≠ y.2) (ho1 : ∀ x, (x, NameKind.cell) ∈ sc'.names → ∃ a, (x, a) ∈ own) (ho2 : ∀ x a, (x, a) ∈ own → (x, NameKind.cell) ∈ sc'.names) (hNA : ∀ a, N a → ¬ Av a) :
    EnvR K.ad W' (fun a => Av a ∨ N a) (fun a => a = C ∨ ∃ x, (x, a) ∈ own) { scope := relabel sc' env, locals := C, globals := env.globals, cells := own ++ cl, qual, func := none, code := env.code, frame := env.frame, builtins := env.builtins } sc' (inner sc' loc) h' := by
  have uniq : ∀ {x : Str} {k k' : NameKind}, (x, k) ∈ sc'.names → (x, k') ∈ sc'.names → k = k' := fun a b => Option.some.inj ((lookup_of_mem (scope_nodup hok) a).symm.trans (lookup_of_mem (scope_nodup hok) b))
  have own_of : ∀ {z : Str} {a : Addr}, sc'.names.lookup z = some .cell → (own ++ cl).lookup z = some a → (z, a) ∈ own := fun hz e => (ho1 _ (mem_of_lookup' hz)).elim fun b hb => (lookup_some_of hb).elim fun c hc => Option.some.inj ((ap_hit hc).symm.trans e) ▸ mem_of_lookup' hc
  refine ⟨show sc'.kind = _ from scope_kind hok, fun x k hl => ?_, R.glob, R.bltn, fun a ha => .inr (ha.elim (fun e => e ▸ hNC) fun z => z.elim fun x hx => (hown x a hx).2.1), .inl rfl, ⟨_, hC, fun x tv hx ht => inner_not (fun e => NameKind.noConfusion (Option.some.inj (hx.symm.trans e))) ht⟩,
    fun x hx => (ho1 x (mem_of_lookup' hx)).elim fun a ha => (lookup_some_of ha).elim fun b hb =>
      have y := hown x b (mem_of_lookup' hb)
      ⟨b, none, ap_hit hb, y.1, .inr ⟨x, mem_of_lookup' hb⟩, y.2.2, fun tv ht => inner_not (fun e => NameKind.noConfusion (Option.some.inj (hx.symm.trans e))) ht⟩,
    fun x hx => (hcl2 x (mem_of_lookup' hx)).elim fun a ha => (lookup_some_of ha).elim fun b hb => ?_, fun x y a hx hy e1 e2 => name_of_addr hap (own_of hx e1) (own_of hy e2)⟩
  · have e := map_lookup (f := fun (n, k) => if (k == NameKind.free && env.scope.kind == .function && env.kindOf n == some .cell) then (n, NameKind.cell) else (n, k)) (gk := fun x k => if (k == NameKind.free && env.scope.kind == .function && env.kindOf x == some .cell) then NameKind.cell else k)
      (fun p => by
        show (if (p.2 == NameKind.free && env.scope.kind == .function && env.kindOf p.1 == some .cell) = true then (p.1, NameKind.cell) else (p.1, p.2)) = (p.1, if (p.2 == NameKind.free && env.scope.kind == .function && env.kindOf p.1 == some .cell) = true then NameKind.cell else p.2)
        cases (p.2 == NameKind.free && env.scope.kind == .function && env.kindOf p.1 == some .cell) <;> rfl) sc'.names x
    rw [hl] at e
    have key : ∀ {o : Option NameKind}, o = some (if (k == NameKind.free && env.scope.kind == .function && env.kindOf x == some .cell) then NameKind.cell else k) → o = some k ∨ (k = .free ∧ o = some .cell) := fun e =>
      e ▸ ite2 (f := fun r => some r = some k ∨ (k = .free ∧ some r = some .cell)) (fun c => .inr ⟨eq_of_beq (Bool.and_eq_true_iff.mp (Bool.and_eq_true_iff.mp c).1).1, rfl⟩) fun _ => .inl rfl
    exact key e
  · have hb' := hcl1 x b (mem_of_lookup' hb)
    have hnone : own.lookup x = none := lookup_none_of fun a ha => NameKind.noConfusion (uniq (ho2 x a ha) (mem_of_lookup' hx))
    have fin : ∀ {a' : Addr} {cv : Option Value}, env.cells.lookup x = some a' → h.IsCell a' cv → Av a' → (∀ tv, loc x = some tv → ∃ v, cv = some v ∧ Rp K.ad W tv v) → ∃ a cv, (own ++ cl).lookup x = some a ∧ h'.IsCell a cv ∧ (Av a ∨ N a) ∧ ¬ (a = C ∨ ∃ x, (x, a) ∈ own) ∧ ∀ tv, inner sc' loc x = some tv → ∃ v, cv = some v ∧ Rp K.ad W' tv v :=
      fun e c hav hv => ⟨_, _, (ap_miss hnone).trans (hb.trans (hb'.symm.trans e)), c.imp fun o => And.imp_left (hk _ o), .inl hav, fun z => z.elim (fun z => hNA _ hNC (z ▸ hav)) fun z => z.elim fun y hy => hNA _ (hown y _ hy).2.1 hav,
        fun tv ht => (hv tv (inner_free hx ht)).imp fun v => And.imp_right (Rp.mono le)⟩
    exact (scope_free hok (mem_of_lookup' hx)).elim (fun hf => (R.cellF x hf).elim fun a' z => z.elim fun cv z => fin z.1 z.2.1 (R.fsub _ z.2.2.1) z.2.2.2.2) fun hf => (R.freeF x hf).elim fun a' z => z.elim fun cv z => fin z.1 z.2.1 z.2.2.1 z.2.2.2.2
end
end

section
open PySem PySem.W PyProof.Rows

/-- what is kept from before a comprehension to its loops' end, with its own places still set apart -/
structure KpN (Av N F : Addr → Prop) (g : Gh) (cells : List Cell) (s : Shared) (g' : Gh) (cells' : List Cell) (s' : Shared) : Prop where
  le : (g.wd Av cells s.heap).Le (g'.wd (fun a => Av a ∨ N a) cells' s'.heap)
  av : ∀ a o, Av a → ¬ F a → s.heap.get? a = some o → ∃ o', s'.heap.get? a = some o' ∧ SameFr o o'
  tk : s.toks ≤ s'.toks
  old : ∀ a o, s.heap.get? a = some o → ∃ o', s'.heap.get? a = some o'

/-- a comprehension's own places but its iterator -/
noncomputable def N1 (D C : Addr) (own : List (Str × Addr)) (a : Addr) : Prop := a = D ∨ a = C ∨ ∃ x, (x, a) ∈ own
noncomputable def N0 (I D C : Addr) (own : List (Str × Addr)) (a : Addr) : Prop := a = I ∨ N1 D C own a
structure Lay (h0 h1 H : Heap) (I D C : Addr) (own : List (Str × Addr)) : Prop where
  keep : ∀ a o, h1.get? a = some o → H.get? a = some o
  push : ∀ a o, h0.get? a = some o → h1.get? a = some o
  it : ∃ o, h1.get? I = some o
  acc : H.get? D = some (listObj [] 0)
  ns : H.Ns C fun _ => none
  cel : ∀ x a, (x, a) ∈ own → H.IsCell a none ∧ a ≠ C ∧ a ≠ D ∧ a ≠ I
  apart : own.Pairwise fun x y => x.2 ≠ y.2
  fresh : ∀ a, N0 I D C own a → h0.get? a = none
  DI : D ≠ I
  CI : C ≠ I
  DC : D ≠ C

theorem lay_ok {h0 : Heap} {o : Obj} (hof : o.isFreed = false) (names : List (Str × NameKind)) : Lay h0 (h0.push o) (pushCells (((h0.push o).push (listObj [] 0)).push { cls := .type "dict", data := .dict #[] }) names) h0.objs.size (h0.push o).objs.size ((h0.push o).push (listObj [] 0)).objs.size
    (cellsFrom (((h0.push o).push (listObj [] 0)).objs.size + 1) names []) := by
  have lt1 : h0.objs.size < (h0.push o).objs.size := Nat.lt_of_lt_of_eq (Nat.lt_succ_self _) (Heap.size_push ..).symm
  have lt2 : (h0.push o).objs.size < ((h0.push o).push (listObj [] 0)).objs.size := Nat.lt_of_lt_of_eq (Nat.lt_succ_self _) (Heap.size_push ..).symm
  have ok := cellsFrom_ok names (((h0.push o).push (listObj [] 0)).push { cls := .type "dict", data := .dict #[] }) _ [] ⟨(fun _ _ hm => nomatch hm), List.Pairwise.nil⟩ (Nat.le_refl _)
  rw [Heap.size_push] at ok
  have up : ∀ a o', ((h0.push o).push (listObj [] 0)).get? a = some o' → (pushCells (((h0.push o).push (listObj [] 0)).push { cls := .type "dict", data := .dict #[] }) names).get? a = some o' := fun a o' e => pushCells_keeps _ _ _ _ (Heap.get?_push_of_some _ e)
  have fr : ∀ a, h0.objs.size ≤ a → h0.get? a = none := fun a ha => by
    cases e : h0.get? a with
    | none => rfl
    | some o' => exact absurd (Heap.lt_size e) (Nat.not_lt.mpr ha)
  exact ⟨fun a o' e => up a o' (Heap.get?_push_of_some _ e), fun a o' e => Heap.get?_push_of_some _ e, ⟨o, Heap.get?_push_size _ hof⟩, up _ _ (Heap.get?_push_size _ rfl), (Heap.Ns.new _ (.type "dict")).imp fun o' => Exists.imp fun _ => Exists.imp fun _ => And.imp_left (pushCells_keeps _ _ _ _),
    fun x a hx => ⟨(ok.empty x a hx).1, Nat.ne_of_gt (ok.empty x a hx).2, Nat.ne_of_gt (Nat.lt_trans lt2 (ok.empty x a hx).2), Nat.ne_of_gt (Nat.lt_trans (Nat.lt_trans lt1 lt2) (ok.empty x a hx).2)⟩, ok.apart,
    fun a z => z.elim (fun e => fr a (Nat.le_of_eq e.symm)) fun z => z.elim (fun e => fr a (Nat.le_of_lt (Nat.lt_of_lt_of_eq lt1 e.symm))) fun z => z.elim (fun e => fr a (Nat.le_of_lt (Nat.lt_of_lt_of_eq (Nat.lt_trans lt1 lt2) e.symm))) fun z => z.elim fun x hx => fr a (Nat.le_of_lt (Nat.lt_trans (Nat.lt_trans lt1 lt2) (ok.empty x a hx).2)),
    Nat.ne_of_gt lt1, Nat.ne_of_gt (Nat.lt_trans lt1 lt2), Nat.ne_of_lt lt2⟩

/-- a comprehension's own frame -/
noncomputable def cEnv (sc' : Scope) (env : Env) (C : Addr) (cells : List (Str × Addr)) : Env := { scope := relabel sc' env, locals := C, globals := env.globals, cells := cells, qual := env.qual, func := none, code := env.code, frame := env.frame, builtins := env.builtins }

section
variable {G : TG} {K : GK} {S0 : Reg} {Av Av' F : Addr → Prop} {env : Env} {sc : Scope} {g g₁ : Gh} {es es₁ : ES} {s s₁ : Shared} {cells : List Cell} {h' : Heap} {tk : Nat}

/-- what a name of the frame's cells stands at is there -/
theorem seen_at {ad : Str → Option Addr} {W : Wd} {loc : Str → Option TV} {h : Heap} (R : EnvR ad W Av F env sc loc h) {x : Str} {a : Addr} (hx : sc.names.lookup x = some .cell ∨ sc.names.lookup x = some .free) (e : env.cells.lookup x = some a) : h.get? a ≠ none :=
  hx.elim (fun hx => (R.cellF x hx).elim fun b z => z.elim fun _ z => Option.some.inj (z.1.symm.trans e) ▸ fun q => z.2.1.elim fun _ y => noneE (q.symm.trans y.1)) fun hx => (R.freeAt hx e).2

theorem comp_run {r : Rec} {k : Nat} {cx : Cx} (hB : Base G K) (hr : Snd K S0 k r) {A : Around} (hA : AOk S0 k cx.hn A) (hn : cx.hn = true) {elt : Expr} {gc : Comprehension} {gs : List Comprehension} {sc' : Scope} {pos : Pos}
    {Q : List TV → ES → Prop} {R : Result → Shared → Prop} (hok : scopeOk cx.sc sc' = true) (has : ∀ g ∈ gc :: gs, g.is_async = 0) (hgl : (gc :: gs).length ≤ 10) {cl own : List (Str × Addr)} {h1 H : Heap} {I D C : Addr} {wk : WK} {src : TV} {all : List TV}
    (hcl1 : ∀ x a, (x, a) ∈ cl → env.cells.lookup x = some a) (hcl2 : ∀ x, (x, NameKind.free) ∈ sc'.names → ∃ a, (x, a) ∈ cl) (ho1 : ∀ x, (x, NameKind.cell) ∈ sc'.names → ∃ a, (x, a) ∈ own) (ho2 : ∀ x a, (x, a) ∈ own → (x, NameKind.cell) ∈ sc'.names)
    (L : Lay s.heap h1 H I D C own) (n : Now K S0 Av F env cx.sc g es s) (w : Walk K (g.wd Av es.cells s.heap) h1 wk I src 0) (hst : stands wk es.cells src all)
    (hl : genLoop r { cx with sc := sc' } gc wk src all (evGens r { cx with sc := sc' } elt gs) all { es with loc := inner sc' es.loc } [] Q)
    (out : ∀ vs es' g' s', Q vs es' → Now K S0 (fun a => Av a ∨ N1 D C own a) F env cx.sc g' { es' with loc := es.loc } s' → KpN Av (N1 D C own) F g es.cells s g' es'.cells s' → AccAt K (g'.wd (fun a => Av a ∨ N1 D C own a) es'.cells s'.heap) s'.heap D vs → (∃ m, s'.heap.Ns C m) → R (.ok .next) s') :
    codeAny (model K.prog K.w) A (.compStart (.ListComp elt (gc :: gs) sc' pos) 0 (.ref I) (.ref D) (cEnv sc' env C (own ++ cl))) R { s with heap := H } := by
  have kH : ∀ a o, s.heap.get? a = some o → H.get? a = some o := fun a o e => L.keep a o (L.push a o e)
  have N3 := n.enter (N := N0 I D C own) (h' := H) (tk := s.toks) L.fresh (fun a z => z.elim (fun e => e ▸ L.it.imp fun o => L.keep _ o) fun z => z.elim (fun e => ⟨listObj [] 0, e ▸ L.acc⟩) fun z => z.elim (fun e => e ▸ L.ns.imp fun o y => y.elim fun _ y => y.elim fun _ y => y.1) fun z => z.elim fun x hx => (L.cel x a hx).1.imp fun _ => And.left) kH (Nat.le_refl _)
  have NA : ∀ a, N0 I D C own a → ¬ Av a := fun a ha => n.inv.offAv (L.fresh a ha)
  have ienv := inner_env (N := N0 I D C own) (qual := env.qual) (own := own) n.env N3.2 kH hok hcl1 hcl2 L.ns (.inr (.inr (.inl rfl))) (fun x a hx => ⟨(L.cel x a hx).1, .inr (.inr (.inr ⟨x, hx⟩)), (L.cel x a hx).2.1⟩) L.apart ho1 ho2 NA
  have offN : ∀ {a}, N0 I D C own a → (∀ x, (x, a) ∉ own) → Off S0 (cEnv sc' env C (own ++ cl)) sc' a := fun {a} ha no => ⟨fun x hx e => (List.mem_append.mp (mem_of_lookup' (show (own ++ cl).lookup x = some a from e))).elim (no x) fun hm => seen_at n.env (scope_free hok (mem_of_lookup' hx)) (hcl1 x a hm) (L.fresh a ha), n.inv.noFrame (L.fresh a ha)⟩
  have noI : ∀ x, (x, I) ∉ own := fun x hx => (L.cel x I hx).2.2.2 rfl
  have noD : ∀ x, (x, D) ∉ own := fun x hx => (L.cel x D hx).2.2.1 rfl
  have hem : EmitOk K S0 (fun a => a = C ∨ ∃ x, (x, a) ∈ own) (cEnv sc' env C (own ++ cl)) A sc' D ((0 + 1) * lim) (evGens r { cx with sc := sc' } elt gs) (emitT elt (gc :: gs) (.ListComp elt (gc :: gs) sc' pos) 0 (.ref D) (cEnv sc' env C (own ++ cl))) := by
    cases gs with
    | nil => exact emit_elt (cx := { cx with sc := sc' }) hr hA (by decide) rfl
    | cons g2 rest => exact emit_cons (cx := { cx with sc := sc' }) hr hA (comp_clause (cx := { cx with sc := sc' }) hB hr hA hn hgl rest) rfl fun g hg => has g (.tail _ hg)
  refine comp_core (cx := { cx with sc := sc' }) (pre := []) (g := g) (es := { es with loc := inner sc' es.loc }) hr hA hn rfl (has gc (.head _)) (fun g' e => has g' (.tail _ (List.mem_of_getElem? (i := 0) e))) hem (.inr (.inl rfl)) (fun z => z.elim (fun e => L.CI e.symm) fun z => z.elim noI) (offN (.inl rfl) noI)
    (.inr (.inr (.inl rfl))) (fun z => z.elim L.DC fun z => z.elim noD) (offN (.inr (.inl rfl)) noD) L.DI ⟨N3.1.inv, ienv⟩ (w.keep N3.2 fun o e => L.keep _ o e) hst hl ⟨[], 0, L.acc, .nil⟩ (Nat.zero_le _) fun {g' es' s' vs h'} q n' k' ra hx => ?_
  have leA := N3.2.trans k'.le
  have neA : ∀ a, Av a → a ≠ I := fun a ha e => NA a (.inl e) ha
  have neN : ∀ a, N1 D C own a → a ≠ I := fun a z e => z.elim (fun y => L.DI (y.symm.trans e)) fun z => z.elim (fun y => L.CI (y.symm.trans e)) fun z => z.elim fun x hx => noI x (e ▸ hx)
  have hkA : ∀ a o, Av a → s.heap.get? a = some o → ∃ o', h'.get? a = some o' ∧ SameFr o o' := fun a o ha e => (k'.av a o (.inl ha) (fun z => z.elim (fun z => z.elim (fun z => NA a (.inr (.inr z)) ha) fun z => NA a (.inr (.inl z)) ha) fun z => NA a (.inl z) ha) (kH a o e)).imp fun o' => And.imp_left (hx a o' (neA a ha))
  have J := n'.inv.reAv (Av' := fun a => Av a ∨ N1 D C own a) (h' := h') (tk := s'.toks) (fun a o' ha e => ⟨hx a o' (fun z => ha (.inr (.inl z))) e, fun z => ha (z.imp id .inr)⟩) (fun a ha => (n'.inv.avs a (ha.imp id .inr)).imp fun o' => hx a o' (ha.elim (neA a) (neN a)))
    (fun a _ d hf => ⟨.inl (n.inv.frameAv hf), d.keep fun o' => hx a o' (neA a (n.inv.frameAv hf))⟩) (Nat.le_refl _)
  exact out vs es' g' _ q ⟨J.1, n.env.re (leA.trans J.2) (fun a h => .inl (n.env.fsub a h)) (fun x a hx e => .inl (n.env.freeAt hx e).1) fun a o ha _ => hkA a o ha⟩
    ⟨leA.trans J.2, fun a o ha _ => hkA a o ha, k'.tk, fun a o e => (k'.old a o (kH a o e)).imp fun o' => hx a o' fun z => noneE ((L.fresh a (.inl z)).symm.trans e)⟩ (ra.keep J.2 fun o' => hx D o' L.DI)
    (n'.env.ns.imp fun m hm => hm.1.imp fun o' => Exists.imp fun _ => Exists.imp fun _ => And.imp_left (hx C o' L.CI))

theorem comp_ok {r : Rec} {k : Nat} {cx : Cx} (hB : Base G K) (hr : Snd K S0 k r) {A : Around} (hA : AOk S0 k cx.hn A) (hn : cx.hn = true) {elt : Expr} {gc : Comprehension} {gs : List Comprehension} {sc' : Scope} {pos pos' : Pos} {use : Option (Value → Sem Unit)}
    {Q : List TV → ES → Prop} {P : Value → Shared → Prop} {E : Value → Shared → Prop} (hok : scopeOk cx.sc sc' = true) (hns : ∀ env x, foldedSetIterable gc.iter env x = pure x) (has : ∀ g ∈ gc :: gs, g.is_async = 0) (hgl : (gc :: gs).length ≤ 10)
    (h : r.e cx gc.iter es fun src es => walks es src fun k xs es => genLoop r { cx with sc := sc' } gc k src xs (evGens r { cx with sc := sc' } elt gs) xs { es with loc := inner sc' es.loc } [] fun vs es' => Q vs { es' with loc := es.loc })
    (n : Now K S0 Av F env cx.sc g es s)
    (fin : ∀ (N : Addr → Prop) (D C : Addr) (vs : List TV) (es' : ES) (g' : Gh) (s' : Shared), Q vs es' → (∀ a, N a → ¬ Av a) → (∀ a, N a → s.heap.get? a = none) → N D → N C → D ≠ C → Now K S0 (fun a => Av a ∨ N a) F env cx.sc g' es' s' →
      KpN Av N F g es.cells s g' es'.cells s' → AccAt K (g'.wd (fun a => Av a ∨ N a) es'.cells s'.heap) s'.heap D vs → (∃ m, s'.heap.Ns C m) → compPost (model K.prog K.w) A E use P (.ref D) C (.ok .next) s') :
    wpAny (model K.prog K.w) A (comprehension (.ListComp elt (gc :: gs) sc' pos) sc' env pos' (newList []) false (eval gc.iter env) use) P E s := by
  refine (closure_ok (env := env) (scope := sc') fun x hx => (scope_free hok hx).elim (fun hf => (n.env.cellF x hf).imp fun a z => z.elim fun _ z => z.1) fun hf => (n.env.freeF x hf).imp fun a z => z.elim fun _ z => z.1).elim fun cl z =>
    wpAny_comprehension_free rfl (hns env) z.1 (scope_kind hok) (fun x hx hl => hl ▸ lookup_of_mem (scope_nodup hok) hx) (hr.e cx gc.iter es _ h A env Av F g s _ _ hA n fun v s1 src es1 g1 h1 n1 k1 r1 => h1.elim fun wk h1 => h1.elim fun all h1 => ?_)
  have L := n1.lock src
  refine walk_start hB L.1.inv (r1.mono L.2.le) h1.1 fun o hof w0 => wpAny_newObj_type (compEnv_ok ?_)
  have Y := lay_ok (h0 := s1.heap) hof sc'.names
  have k12 := k1.trans L.2
  rw [cellsFrom_append]
  refine comp_run (s := s1) (pos := pos) hB hr hA hn hok has hgl z.2.1 z.2.2 (fun x hx => cellsFrom_mem _ _ hx) (fun x a hx => cellsFrom_names _ _ hx) Y L.1 w0 h1.1 h1.2 fun vs es' g' s' q n' k' ra hm => ?_
  have fr : ∀ a, N1 _ _ _ a → s1.heap.get? a = none := fun a ha => Y.fresh a (.inr ha)
  exact fin _ _ _ vs _ g' s' q (fun a ha => L.1.inv.offAv (fr a ha)) (fun a ha => by
    cases e : s.heap.get? a with
    | none => rfl
    | some o' => exact (k12.old a o' e).elim fun o2 e2 => noneE ((fr a ha).symm.trans e2)) (.inl rfl) (.inr (.inl rfl)) Y.DC n'
    ⟨k12.le.trans k'.le, fun a o' ha hf e => (k12.av a o' ha hf e).elim fun o2 y => (k'.av a o2 ha hf y.1).imp fun o3 => And.imp_right y.2.trans, Nat.le_trans k12.tk k'.tk, fun a o' e => (k12.old a o' e).elim fun o2 => k'.old a o2⟩ ra hm
end
end

section
open PySem PySem.W PyProof.Rows

section
variable {G : TG} {K : GK} {S0 : Reg} {Av B F : Addr → Prop} {env : Env} {sc : Scope} {g : Gh} {es : ES} {s : Shared} {cells : List Cell} {h' : Heap} {tk : Nat}

/-- what was set apart is let go, and one place of it is a changing thing from now on -/
theorem Inv.exitCell (I : Inv K S0 B g cells s) {D : Addr} {c : Cell} (hsub : ∀ a, Av a → B a) (hfm : ∀ a, Frame S0 a → Av a) (hk : ∀ a o, Av a ∨ ¬ B a → s.heap.get? a = some o → h'.get? a = some o) (hD : B D) (hnD : ¬ Av D) (hNB : K.B.get? D = none) (he : ∃ o, h'.get? D = some o) (ht : s.toks ≤ tk)
    (hc : (g.wd B cells s.heap).Le (Gh.wd ⟨g.am ++ [D], g.T⟩ Av (cells ++ [c]) h') → CellR K (Gh.wd ⟨g.am ++ [D], g.T⟩ Av (cells ++ [c]) h') h' D c) :
    Inv K S0 Av ⟨g.am ++ [D], g.T⟩ (cells ++ [c]) { s with heap := h', toks := tk } ∧ (g.wd B cells s.heap).Le (Gh.wd ⟨g.am ++ [D], g.T⟩ Av (cells ++ [c]) h') :=
  have le : (g.wd B cells s.heap).Le (Gh.wd ⟨g.am ++ [D], g.T⟩ Av (cells ++ [c]) h') := ⟨fun b o z => ⟨hk b o (.inr z.2.1) z.1, fun y => z.2.1 (hsub b y), fun h => (live_append I.len h).elim z.2.2 fun y => z.2.1 (y ▸ hD)⟩, at_old, fun _ _ => id⟩
  ⟨I.to' (g' := ⟨g.am ++ [D], g.T⟩) le ht (fun a ha => (I.avs a (hsub a ha)).imp fun o => hk a o (.inl ha)) (fun b hb => (mem_app hb).elim (fun hb => (I.ams b hb).imp fun o => hk b o (.inr (I.off b hb))) fun z => z ▸ he)
    (by show (g.am ++ [D]).length = _; rw [List.length_append, List.length_append, I.len]; rfl) (nodup_app I.nodup fun hm => I.off D hm hD) (fun b hb => (mem_app hb).elim (I.apart b) fun z => z ▸ hNB) (fun b hb => (mem_app hb).elim (fun m z => I.off b m (hsub b z)) fun z => z ▸ hnD)
    (fun i d b hd hb => (app2 I.len hd hb).elim (fun y => (I.cell i d b y.1 y.2).mono le fun o => hk b o (.inr (I.offAt y.2))) fun y => by rw [y.1, y.2]; exact hc le) (I.ttl ht)
    fun e he => (I.frm e he).imp_right fun z => z.imp fun L y => ⟨y.1, hfm L ⟨e, he, y.1⟩, y.2.2.keep fun o => hk L o (.inl (hfm L ⟨e, he, y.1⟩))⟩, le⟩

/-- a list that was gathered in a place of its own: a value that stands for good, or a changing thing -/
theorem Now.settle (n : Now K S0 B F env sc g es s) {D : Addr} {vs : List TV} {us : List Value} {i : Nat} {Q : TV → ES → Prop} (hsub : ∀ a, Av a → B a) (hF : ∀ a, F a → Av a) (hfr : ∀ x a, sc.names.lookup x = some .free → env.cells.lookup x = some a → Av a) (hfm : ∀ a, Frame S0 a → Av a)
    (hk : ∀ a o, Av a ∨ ¬ B a → s.heap.get? a = some o → h'.get? a = some o) (hD : B D) (hnD : ¬ Av D) (hNB : K.B.get? D = none) (he : h'.get? D = some (listObj us i)) (r : RpL K.ad (g.wd B es.cells s.heap) vs us)
    (hQ : Q (.list vs) es ∨ Q (.ref es.cells.length) { es with cells := es.cells ++ [.list vs] }) :
    ∃ x es' g', Q x es' ∧ Now K S0 Av F env sc g' es' { s with heap := h' } ∧ (g.wd B es.cells s.heap).Le (g'.wd Av es'.cells h') ∧ Rp K.ad (g'.wd Av es'.cells h') x (.ref D) :=
  hQ.elim (fun q =>
    have J := n.inv.reAv (Av' := Av) (h' := h') (tk := s.toks) (fun a o hb e => ⟨hk a o (.inr hb) e, fun z => hb (hsub a z)⟩) (fun a ha => (n.inv.avs a (hsub a ha)).imp fun o => hk a o (.inl ha)) (fun a _ d hf => ⟨hfm a hf, d.keep fun o => hk a o (.inl (hfm a hf))⟩) (Nat.le_refl _)
    ⟨_, _, g, q, ⟨J.1, n.env.re J.2 hF hfr fun a o _ ha e => ⟨o, hk a o (.inl ha) e, .inl rfl⟩⟩, J.2, .list (vs := us) (n := i) ⟨he, hnD, fun l => l.elim fun j l => l.elim fun d z => n.inv.off D (List.mem_of_getElem? z.1) hD⟩ (RpL.mono J.2 r)⟩) fun q =>
    have J := n.inv.exitCell (h' := h') (tk := s.toks) (c := .list vs) hsub hfm hk hD hnD hNB ⟨_, he⟩ (Nat.le_refl _) fun le => ⟨us, i, he, RpL.mono le r⟩
    ⟨_, _, ⟨g.am ++ [D], g.T⟩, q, ⟨J.1, n.env.re J.2 hF hfr fun a o _ ha e => ⟨o, hk a o (.inl ha) e, .inl rfl⟩⟩, J.2, .ref (show (g.am ++ [D])[es.cells.length]? = some D by rw [← n.inv.len]; exact List.getElem?_concat_length ..)⟩

theorem KpN.out {N : Addr → Prop} {g' : Gh} {cells₁ cells' : List Cell} {g₁ : Gh} {s₁ s' : Shared} (kp : KpN Av N F g cells s g₁ cells₁ s₁) (le : (g₁.wd (fun a => Av a ∨ N a) cells₁ s₁.heap).Le (g'.wd Av cells' s'.heap)) (hka : ∀ a o, Av a → ¬ F a → s₁.heap.get? a = some o → ∃ o', s'.heap.get? a = some o' ∧ SameFr o o')
    (hko : ∀ a o, ¬ N a → s₁.heap.get? a = some o → ∃ o', s'.heap.get? a = some o') (hNf : ∀ a, N a → s.heap.get? a = none) (ht : s₁.toks ≤ s'.toks) : Kp Av F g cells s g' cells' s' :=
  ⟨kp.le.trans le, fun a o ha hf e => (kp.av a o ha hf e).elim fun o2 y => (hka a o2 ha hf y.1).imp fun o3 => And.imp_right y.2.trans, Nat.le_trans kp.tk ht, fun a o e => (kp.old a o e).elim fun o' => hko a o' fun z => noneE ((hNf a z).symm.trans e)⟩

theorem Now.noBase (n : Now K S0 Av F env sc g es s) {D : Addr} (h : s.heap.get? D = none) : K.B.get? D = none := by
  cases e : K.B.get? D with
  | none => rfl
  | some o => exact noneE (h.symm.trans (n.inv.base D o e).1)

/-- a comprehension's list -/
theorem comp_val {r : Rec} {k : Nat} {cx : Cx} (hB : Base G K) (hr : Snd K S0 k r) {A : Around} (hA : AOk S0 k cx.hn A) (hn : cx.hn = true) {elt : Expr} {gc : Comprehension} {gs : List Comprehension} {sc' : Scope} {pos pos' : Pos}
    {Q : List TV → ES → Prop} {Q' : TV → ES → Prop} {P : Value → Shared → Prop} {E : Value → Shared → Prop} (hok : scopeOk cx.sc sc' = true) (hns : ∀ env x, foldedSetIterable gc.iter env x = pure x) (has : ∀ g ∈ gc :: gs, g.is_async = 0) (hgl : (gc :: gs).length ≤ 10)
    (hQ : ∀ vs es', Q vs es' → Q' (.list vs) es' ∨ Q' (.ref es'.cells.length) { es' with cells := es'.cells ++ [.list vs] })
    (h : r.e cx gc.iter es fun src es => walks es src fun k xs es => genLoop r { cx with sc := sc' } gc k src xs (evGens r { cx with sc := sc' } elt gs) xs { es with loc := inner sc' es.loc } [] fun vs es' => Q vs { es' with loc := es.loc })
    (n : Now K S0 Av F env cx.sc g es s) (p : PostE K S0 Av F env cx.sc g es s Q' P) :
    wpAny (model K.prog K.w) A (comprehension (.ListComp elt (gc :: gs) sc' pos) sc' env pos' (newList []) false (eval gc.iter env) none) P E s :=
  comp_ok hB hr hA hn hok hns has hgl h n fun N D C vs es' g' s' q hNA hNf hND hNC hDC n5 kp acc hC => hC.imp fun m hm => ⟨hm, fun h' hs => acc.elim fun us acc => acc.elim fun i acc =>
    have hk : ∀ a o, ¬ N a → s'.heap.get? a = some o → h'.get? a = some o := fun a o ha e => sameBut_keep hs a o (fun z => ha (z ▸ hNC)) e
    (n5.settle (Av := Av) (fun _ => .inl) n.env.fsub (fun x a hx e => (n.env.freeAt hx e).1) (fun _ h => n.inv.frameAv h) (fun a o z => hk a o fun y => z.elim (hNA a y) fun z => z (.inr y)) (.inr hND) (hNA D hND) (n.noBase (hNf D hND)) (sameBut_keep hs D _ hDC acc.1) acc.2 (hQ vs es' q)).elim
      fun x y => y.elim fun es6 y => y.elim fun g6 y => p _ _ x es6 g6 y.1 y.2.1 (kp.out y.2.2.1 (fun a o ha _ e => ⟨o, hk a o (fun z => hNA a z ha) e, .inl rfl⟩) (fun a o ha e => ⟨o, hk a o ha e⟩) hNf (Nat.le_refl _)) y.2.2.2⟩

/-- a comprehension whose list is put to use before its own names are let go -/
theorem comp_use {r : Rec} {k : Nat} {cx : Cx} (hB : Base G K) (hr : Snd K S0 k r) {A : Around} (hA : AOk S0 k cx.hn A) (hn : cx.hn = true) {elt : Expr} {gc : Comprehension} {gs : List Comprehension} {sc' : Scope} {pos pos' : Pos}
    {Q : List TV → ES → Prop} {Q' : TV → ES → Prop} {Q2 : ES → Prop} {P : Shared → Prop} {E : Value → Shared → Prop} {u : Value → Sem Unit} (hok : scopeOk cx.sc sc' = true) (hns : ∀ env x, foldedSetIterable gc.iter env x = pure x) (has : ∀ g ∈ gc :: gs, g.is_async = 0) (hgl : (gc :: gs).length ≤ 10)
    (hQ : ∀ vs es', Q vs es' → Q' (.list vs) es' ∨ Q' (.ref es'.cells.length) { es' with cells := es'.cells ++ [.list vs] })
    (h : r.e cx gc.iter es fun src es => walks es src fun k xs es => genLoop r { cx with sc := sc' } gc k src xs (evGens r { cx with sc := sc' } elt gs) xs { es with loc := inner sc' es.loc } [] fun vs es' => Q vs { es' with loc := es.loc })
    (hu : ∀ (Av' : Addr → Prop) (g1 : Gh) (es1 : ES) (s1 : Shared) (v : Value) (x : TV) (P1 : Shared → Prop), Now K S0 Av' F env cx.sc g1 es1 s1 → Rp K.ad (g1.wd Av' es1.cells s1.heap) x v → Q' x es1 → PostU K S0 Av' F env cx.sc g1 es1 s1 Q2 P1 → wpAny (model K.prog K.w) A (u v) (fun _ => P1) E s1)
    (n : Now K S0 Av F env cx.sc g es s) (p : PostU K S0 Av F env cx.sc g es s Q2 P) :
    wpAny (model K.prog K.w) A (comprehension (.ListComp elt (gc :: gs) sc' pos) sc' env pos' (newList []) false (eval gc.iter env) (some u)) (fun _ => P) E s :=
  comp_ok hB hr hA hn hok hns has hgl h n fun N D C vs es' g' s' q hNA hNf hND hNC hDC n5 kp acc hC => hC.elim fun m hm => acc.elim fun us acc => acc.elim fun i acc =>
    (n5.settle (Av := fun a => Av a ∨ (N a ∧ a ≠ D)) (h' := s'.heap) (fun _ => Or.imp id And.left) (fun a z => .inl (n.env.fsub a z)) (fun x a hx e => .inl (n.env.freeAt hx e).1) (fun _ h => .inl (n.inv.frameAv h)) (fun a o _ e => e) (.inr hND) (fun z => z.elim (hNA D hND) fun z => z.2 rfl) (n.noBase (hNf D hND)) acc.1 acc.2 (hQ vs es' q)).elim
      fun x y => y.elim fun es6 y => y.elim fun g6 y => hu _ g6 es6 s' (.ref D) x _ y.2.1 y.2.2.2 y.1 fun s2 es2 g2 q2 n2 k2 => ⟨m, ns_same hm fun o e => k2.av C o (.inr ⟨hNC, Ne.symm hDC⟩) (fun z => hNA C hNC (n.env.fsub C z)) e, fun h' hs =>
        have hk : ∀ a o, ¬ (N a ∧ a ≠ D) → s2.heap.get? a = some o → h'.get? a = some o := fun a o ha e => sameBut_keep hs a o (fun z => ha ⟨z ▸ hNC, fun e => hDC (e.symm.trans z)⟩) e
        have N7 := n2.exit' (Av := Av) (N := fun a => N a ∧ a ≠ D) (h' := h') (tk := s2.toks) n.env.fsub (fun x a hx e => (n.env.freeAt hx e).1) (fun a h => n.inv.frameAv h) (fun a h => hNA a h.1) hk (Nat.le_refl _)
        p _ es2 g2 q2 N7.1 (kp.out ((y.2.2.1.trans k2.le).trans N7.2) (fun a o ha hf e => (k2.av a o (.inl ha) hf e).imp fun o' => And.imp_left (hk a o' fun z => hNA a z.1 ha)) (fun a o ha e => (k2.old a o e).imp fun o' => hk a o' fun z => ha z.1) hNf k2.tk)⟩
end
end

section
open PySem PySem.W PyProof.Rows

theorem firstAsync_of {gc : Comprehension} {gs : List Comprehension} (h : gc.is_async = 0) : firstAsync (gc :: gs) = false := by
  cases gc with
  | mk t i fs a =>
    show (a != 0) = false
    rw [show a = 0 from h]
    rfl
theorem firstIter_of {gc : Comprehension} {gs : List Comprehension} {env : Env} : firstIter (gc :: gs) env = eval gc.iter env := by
  cases gc
  rfl
theorem async_of {gens : List Comprehension} (has : (gens.all fun g => g.is_async == 0) = true) : ∀ g ∈ gens, g.is_async = 0 := fun g hg => eq_of_beq (List.all_eq_true.mp has g hg)
theorem evalThenUse_LC {elt : Expr} {gens : List Comprehension} {sc : Scope} {p : Pos} {env : Env} {u : Value → Sem Unit} : evalThenUse (.ListComp elt gens sc p) env u =
    (comprehension (.ListComp elt gens sc p) sc env (firstIterPos gens p) (newList []) (firstAsync gens) (firstIter gens env) (some u) >>= fun _ => pure ()) := rfl
theorem swaps_pure {elt : Expr} {gens : List Comprehension} {sc : Scope} {p : Pos} {t : Expr} {line : Nat} {env : Env} : ∃ b, swapsWith (.ListComp elt gens sc p) (some t) line env = pure b := by
  have z : ∃ b, (pure false : Sem Bool) = pure b := ⟨false, rfl⟩
  cases t <;> first | exact z | exact ⟨_, rfl⟩

section
variable {G : TG} {K : GK} {S0 : Reg} {Av Av' F : Addr → Prop} {env : Env} {sc : Scope} {g g₁ : Gh} {es es₁ : ES} {s s₁ : Shared} {cells : List Cell} {h' : Heap} {tk : Nat}

theorem compE_ok {r : Rec} {k : Nat} (hB : Base G K) (hr : Snd K S0 k r) : CompOk K S0 k r := fun cx elt gens sc' pos es Q h A env Av F g s E P hA n p => by
  cases gens with
  | nil => exact h.elim
  | cons gc gs =>
    rw [eval_ListComp, firstAsync_of (async_of h.2.2.2.1 _ (.head _)), firstIter_of]
    exact comp_val (Q := fun vs es' => vs.length ≤ lim ∧ Q (.list vs) es') (Q' := Q) hB hr hA h.1 h.2.1 h.2.2.1 (async_of h.2.2.2.1) h.2.2.2.2.1 (fun vs es' q => .inl q.2) h.2.2.2.2.2 n p

theorem tgt_each {r : Rec} {cx : Cx} {t : Expr} {x : TV} {Q : ES → Prop} (h : AsgT G r cx t x es Q) : (assignEach [t] env).map (·.2) = [assign t env] := by
  induction h with
  | name => rfl
  | tuple => rfl
  | attr => rfl
  | sub => rfl

theorem PostS.unit {Q : TF → ES → Prop} {P : Flow → Shared → Prop} (p : PostS K S0 Av F env sc g es s Q P) : PostU K S0 Av F env sc g es s (fun es => Q .next es) (P .next) := fun s' es' g' q n' k' => p .next s' .next es' g' q n' k' rfl

/-- a comprehension that is assigned -/
theorem asgComp_ok {r : Rec} {k : Nat} {cx : Cx} (hB : Base G K) (hr : Snd K S0 k r) {A : Around} (hA : AOk S0 k cx.hn A) {E : Value → Shared → Prop} {elt : Expr} {gens : List Comprehension} {sc' : Scope} {p' : Pos} {t : Expr} {line : Nat} {u : Value → Sem Unit} {last : Value → Sem Flow} {Q' : TV → ES → Prop} {T : TV → ES → Prop} {Q2 : ES → Prop} {P : Flow → Shared → Prop}
    (hq : ∀ vs es', vs.length ≤ lim ∧ Q' (.list vs) es' → T (.list vs) es' ∨ T (.ref es'.cells.length) { es' with cells := es'.cells ++ [.list vs] })
    (tgt : ∀ (Av' : Addr → Prop) (g1 : Gh) (es1 : ES) (s1 : Shared) (v : Value) (x : TV) (P1 : Shared → Prop), Now K S0 Av' F env cx.sc g1 es1 s1 → Rp K.ad (g1.wd Av' es1.cells s1.heap) x v → T x es1 → PostU K S0 Av' F env cx.sc g1 es1 s1 Q2 P1 → wpAny (model K.prog K.w) A (u v) (fun _ => P1) E s1)
    (hlast : ∀ v s, wpAny (model K.prog K.w) A (u v) (fun _ => P .next) E s → wpAny (model K.prog K.w) A (last v) P E s)
    (hc : evComp r cx elt gens sc' es Q') (n : Now K S0 Av F env cx.sc g es s) (p : PostU K S0 Av F env cx.sc g es s Q2 (P .next)) :
    wpAny (model K.prog K.w) A (swapsWith (.ListComp elt gens sc' p') (some t) line env >>= fun b => if b = true then (do evalThenUse (.ListComp elt gens sc' p') env u; pure .next) else (do let v' ← eval (.ListComp elt gens sc' p') env; last v')) P E s := by
  refine (swaps_pure (elt := elt) (gens := gens) (sc := sc') (p := p') (t := t) (line := line) (env := env)).elim fun b hb => ?_
  rw [hb]
  refine wpAny_bind (wpAny_pure ?_)
  cases gens with
  | nil => exact hc.elim
  | cons gc gs =>
    cases b with
    | true =>
      rw [if_pos rfl, evalThenUse_LC, firstAsync_of (async_of hc.2.2.2.1 _ (.head _)), firstIter_of]
      exact wpAny_bind (wpAny_bind (wpAny_mono (comp_use (Q := fun vs es' => vs.length ≤ lim ∧ Q' (.list vs) es') (P := P .next) hB hr hA hc.1 hc.2.1 hc.2.2.1 (async_of hc.2.2.2.1) hc.2.2.2.2.1 hq hc.2.2.2.2.2 tgt n p) (fun _ s1 y => wpAny_pure (wpAny_pure y)) fun _ _ y => y))
    | false =>
      rw [if_neg Bool.false_ne_true, eval_ListComp, firstAsync_of (async_of hc.2.2.2.1 _ (.head _)), firstIter_of]
      exact wpAny_bind (comp_val (Q := fun vs es' => vs.length ≤ lim ∧ Q' (.list vs) es') (Q' := T) hB hr hA hc.1 hc.2.1 hc.2.2.1 (async_of hc.2.2.2.1) hc.2.2.2.2.1 hq hc.2.2.2.2.2 n fun v s1 x es1 g1 h1 n1 k1 r1 => hlast v s1 (tgt Av g1 es1 s1 v x _ n1 r1 h1 (p.on k1)))

/-- one target -/
theorem assign_ok {r : Rec} {k : Nat} {cx : Cx} (hB : Base G K) (hr : Snd K S0 k r) {A : Around} (hA : AOk S0 k cx.hn A) {E : Value → Shared → Prop} {t v : Expr} {pos : Pos} {Q : TF → ES → Prop} {P : Flow → Shared → Prop}
    (hsw : ∀ env, swappedStores [t] v env = pure none) (h : AsgV r cx es (fun x es => AsgT G r cx t x es fun es => Q .next es) v)
    (n : Now K S0 Av F env cx.sc g es s) (p : PostS K S0 Av F env cx.sc g es s Q P) : wpAny (model K.prog K.w) A (exec (.Assign [t] v pos) env) P E s := by
  rw [exec_Assign_arm]
  refine wpAny_bind (wpAny_standAt ?_)
  show wpAny _ A (swapsWith v (some t) pos.line env >>= _) _ _ s
  rw [hsw]
  have tgt : ∀ (Av' : Addr → Prop) (g1 : Gh) (es1 : ES) (s1 : Shared) (u : Value) (x : TV) (P1 : Shared → Prop), Now K S0 Av' F env cx.sc g1 es1 s1 → Rp K.ad (g1.wd Av' es1.cells s1.heap) x u → AsgT G r cx t x es1 (fun es => Q .next es) →
      PostU K S0 Av' F env cx.sc g1 es1 s1 (fun es => Q .next es) P1 → wpAny (model K.prog K.w) A (assignAll u ((assignEach [t] env).map (·.2))) (fun _ => P1) E s1 := fun Av' g1 es1 s1 u x P1 n1 r1 h1 p1 => by
    rw [tgt_each h1]
    exact asgTgt_ok hB hr hA h1 n1 r1 p1
  generalize assignEach [t] env = ts at *
  have last : ∀ (u : Value) (s1 : Shared), wpAny (model K.prog K.w) A (assignAll u (ts.map (·.2))) (fun _ => P .next) E s1 → wpAny (model K.prog K.w) A (do assignStores env u (← pure none) (ts.map (·.2))) P E s1 := fun u s1 h1 => wpAny_bind (wpAny_pure (wpAny_bind (wpAny_mono h1 (fun _ _ z => wpAny_pure z) fun _ _ z => z)))
  have swap0 : ∀ {v : Expr}, (∀ t l env, swapsWith v t l env = pure false) → (wpAny (model K.prog K.w) A (eval v env) (fun u s1 => wpAny (model K.prog K.w) A (assignAll u (ts.map (·.2))) (fun _ => P .next) E s1) E s) →
      wpAny (model K.prog K.w) A (swapsWith v (some t) pos.line env >>= fun b => if b = true then (do evalThenUse v env fun u => assignAll u (ts.map (·.2)); pure .next) else (do let v' ← eval v env; assignStores env v' (← pure none) (ts.map (·.2)))) P E s := fun hc hv => by
    rw [hc]
    exact wpAny_bind (wpAny_pure (wpAny_bind (wpAny_mono hv last fun _ _ z => z)))
  clear hsw
  induction h with
  | plain hp h => exact swap0 hp (hr.e cx _ es _ h A env Av F g s _ _ hA n fun u s1 x es1 g1 h1 n1 k1 r1 => tgt Av g1 es1 s1 u x _ n1 r1 h1 (p.unit.on k1))
  | comp h => exact asgComp_ok hB hr hA (fun vs es' q => .inl q.2) tgt last h n p.unit
  | lcomp h => exact asgComp_ok hB hr hA (fun vs es' q => q.2.elim fun xs z => .inr (TV.list.inj z.1 ▸ z.2)) tgt last h n p.unit
  | list h =>
    exact swap0 (fun _ _ _ => rfl) (wpAny_List (evL_ok hr.e _ hA _ h n fun vs s1 tvs es1 g1 h1 n1 k1 r1 => ⟨size_le r1.length h1.1,
      have J := frzs_ok n1.inv r1
      have n2 : Now K S0 Av F env cx.sc g1 { es1 with cells := (frzs tvs es1.cells).2 } s1 := ⟨J.1, n1.env.kp J.2.1⟩
      (n2.primCell (c := .list (frzs tvs es1.cells).1) (Q := fun x es' => AsgT G r cx t x es' fun es => Q .next es) (P := fun u s1 => wpAny (model K.prog K.w) A (assignAll u (ts.map (·.2))) (fun _ => P .next) E s1)
        (fun u s3 x es3 g3 h3 n3 k3 r3 => tgt Av g3 es3 s3 u x _ n3 r3 h3 (p.unit.on ((k1.trans (J.2.1.weak fun _ h => h.elim)).trans k3))) h1.2).newCell J.1 (o := listObj vs 0) rfl (Nat.le_refl _) fun W h a le e => ⟨vs, 0, e, J.2.2.mono le⟩⟩))
end
end

section
open PySem PySem.W PyProof.Rows

section
variable {G : TG} {K : GK} {S0 : Reg} {Av Av' F : Addr → Prop} {env : Env} {sc : Scope} {g g₁ : Gh} {es es₁ : ES} {s s₁ : Shared} {cells : List Cell} {h' : Heap} {tk : Nat}

theorem disp2_ok {r : Rec} {k : Nat} {cx : Cx} (hr : Snd K S0 k r) {A : Around} (hA : AOk S0 k cx.hn A) {E : Value → Shared → Prop} {a b : Str} {pa pb tp vp pos : Pos} {kk kk' : Nat} {v u : Expr} {Q : TF → ES → Prop} {P : Flow → Shared → Prop}
    (hn : cx.hn = true) (ha : cx.sc.names.lookup a = some .local) (hb : cx.sc.names.lookup b = some .local) (hw : ∀ env : Env, env.scope.kind = .function → env.kindOf a = some .local → env.kindOf b = some .local → swappedStores [.Tuple [.Name a pa, .Name b pb] kk tp] (.Tuple [v, u] kk' vp) env = pure (some [a, b]))
    (h : evL r cx [v, u] es fun vs es => ∃ x y, vs = [x, y] ∧ storeTV cx b y es fun es => storeTV cx a x es fun es => Q .next es)
    (n : Now K S0 Av F env cx.sc g es s) (p : PostS K S0 Av F env cx.sc g es s Q P) : wpAny (model K.prog K.w) A (exec (.Assign [.Tuple [.Name a pa, .Name b pb] kk tp] (.Tuple [v, u] kk' vp) pos) env) P E s := by
  refine Assign_Tuple_swapped (names := [a, b]) (wpAny_Tuple (evL_ok hr.e _ hA _ h n fun vs s1 tvs es1 g1 h1 n1 k1 r1 => ?_)) (hs := rfl) (hw := hw env n.env.kind (n.env.kind1 ha nofun) (n.env.kind1 hb nofun))
  refine h1.elim fun x h1 => h1.elim fun y h1 => ?_
  have e := h1.1
  subst e
  refine RpL.two r1 fun vx vy rx ry => ⟨show 2 ≤ sizeLine by decide, ?_⟩
  refine wpAny_unpackItems_tuple (s := { s1 with heap := s1.heap.push (tupObj [vx, vy] 0) }) (items := #[vx, vy]) (hA.hand hn) ⟨_, Heap.get?_push_size _ rfl, rfl, _, rfl⟩ fun h' hx => ?_
  have N := n1.grow (h' := h') (tk := s1.toks) (fun a o e => hx a o (Nat.ne_of_lt (Nat.lt_of_lt_of_eq (Nat.lt_succ_of_lt (Heap.lt_size e)) (Heap.size_push ..).symm)) (Heap.get?_push_of_some _ e)) (Nat.le_refl _)
  exact wpAny_bind (wpAny_holding (wpAny_bindName (store_ok N.1 (ry.mono N.2.le) h1.2 fun s3 es3 g3 h3 n3 k3 => wpAny_bind (wpAny_holding (wpAny_bindName (store_ok n3 (rx.mono (N.2.trans k3).le) h3 fun s4 es4 g4 h4 n4 k4 =>
    wpAny_pure (p .next s4 .next es4 g4 h4 n4 (((k1.trans N.2).trans k3).trans k4) rfl)))))))

theorem two_ok {r : Rec} {k : Nat} {cx : Cx} (hB : Base G K) (hr : Snd K S0 k r) {A : Around} (hA : AOk S0 k cx.hn A) {E : Value → Shared → Prop} {t t' v : Expr} {pos : Pos} {Q : TF → ES → Prop} {P : Flow → Shared → Prop} (hd : ∀ env, swappedStores [t, t'] v env = pure none) (ht : ∀ env, (assignEach [t, t'] env).map (·.2) = [assign t env, assign t' env])
    (h : r.e cx v es fun x es => asgAll G r cx [t, t'] x es fun es => Q .next es)
    (n : Now K S0 Av F env cx.sc g es s) (p : PostS K S0 Av F env cx.sc g es s Q P) : wpAny (model K.prog K.w) A (exec (.Assign [t, t'] v pos) env) P E s :=
  wpAny_Assign_two (hr.e cx v es _ h A env Av F g s _ _ hA n fun u s1 x es1 g1 h1 n1 k1 r1 => asgTgt_ok hB hr hA h1 n1 r1 fun s2 es2 g2 h2 n2 k2 => asgTgt_ok hB hr hA h2 n2 (r1.mono k2.le) (p.on (k1.trans k2)).unit) (ht env) (hd env)

theorem aug_ok {r : Rec} {k : Nat} {cx : Cx} (hB : Base G K) (hr : Snd K S0 k r) {A : Around} (hA : AOk S0 k cx.hn A) {E : Value → Shared → Prop} {o v : Expr} {a : Str} {op : Operator} {f : Int → Int → Int} {pos tpos : Pos} {Q : TF → ES → Prop} {P : Flow → Shared → Prop}
    (hop : ∀ {i j : Int} {t u : Tok} {s : Shared} {Q : Value → Shared → Prop}, Q (.int (f i j) s.toks) { s with toks := s.toks + 1 } → wpAny (model K.prog K.w) A (inplaceOp op (.int i t) (.int j u)) Q E s)
    (h : r.e cx o es fun o es => opt (attrTV G es.cells o a) fun old => r.e cx v es fun v es => ∃ i j cells, old = .int i ∧ v = .int j ∧ SetA G es.cells o a (.int (f i j)) cells ∧ Q .next { es with cells := cells })
    (n : Now K S0 Av F env cx.sc g es s) (p : PostS K S0 Av F env cx.sc g es s Q P) : wpAny (model K.prog K.w) A (exec (.AugAssign (.Attribute o a tpos) op v pos) env) P E s :=
  wpAny_AugAssign_AttributeAny (hr.e cx o es _ h A env Av F g s _ _ hA n fun vo s1 ot es1 g1 h1 n1 k1 r1 => h1.elim fun old h1 => attr_ok hB n1.inv r1 h1.1 fun vold g2 s2 i2 k2 r2 =>
    have k2' : Kp Av F g1 es1.cells s1 g2 es1.cells s2 := k2.weak fun _ h => h.elim
    hr.e cx v es1 _ h1.2 A env Av F g2 s2 _ _ hA ⟨i2, n1.env.kp k2⟩ fun vv s3 vt es3 g3 h3 n3 k3 r3 => h3.elim fun i h3 => h3.elim fun j h3 => h3.elim fun cells z => by
      have e := z.1
      have e' := z.2.1
      subst e e'
      have N := n3.grow (h' := s3.heap) (tk := s3.toks + 1) (fun _ _ e => e) (Nat.le_succ _)
      exact r2.intE fun ti => r3.intE fun tj => hop (setattr_ok hB N.1 (x := .int _) (r1.mono ((k2'.trans k3).trans N.2).le) (.int _ _) z.2.2.1 (Q := fun es => Q .next es) z.2.2.2 (p.on (((k1.trans k2').trans k3).trans N.2)).unit))

theorem del_ok {r : Rec} {k : Nat} {cx : Cx} (hr : Snd K S0 k r) {A : Around} (hA : AOk S0 k cx.hn A) {E : Value → Shared → Prop} {o i : Expr} {pos tpos : Pos} {Q : TF → ES → Prop} {P : Flow → Shared → Prop}
    (h : r.e cx o es fun o es => r.e cx i es fun i es => opt (delItemTV es.cells o i) fun cells => Q .next { es with cells := cells })
    (n : Now K S0 Av F env cx.sc g es s) (p : PostS K S0 Av F env cx.sc g es s Q P) : wpAny (model K.prog K.w) A (exec (.Delete [.Subscript o i tpos] pos) env) P E s := by
  refine wpAny_Delete (wpAny_deleteEach_cons ?_)
  rw [arm_delete_Subscript]
  exact wpAny_bind (hr.e cx o es _ h A env Av F g s _ _ hA n fun vo s1 ot es1 g1 h1 n1 k1 r1 => wpAny_bind (wpAny_holding (hr.e cx i es1 _ h1 A env Av F g1 s1 _ _ hA n1 fun vi s2 it es2 g2 h2 n2 k2 r2 => h2.elim fun cells' h2 => wpAny_bind (wpAny_standAt (wpAny_bind (wpAny_holding
    (wpAny_mono (delitem_ok (P := fun _ => P .next) n2.inv (r1.mono k2.le) r2 h2.1 fun v g' s' i' k' r' => p .next s' .next { es2 with cells := cells' } g' h2.2 ⟨i', n2.env.kp k'⟩ ((k1.trans k2).trans (k'.weak fun _ h => h.elim)) rfl) (fun _ _ z => wpAny_release (wpAny_deleteEach_nil z)) fun _ _ z => z)))))))

theorem return_ok {r : Rec} {k : Nat} {cx : Cx} (hr : Snd K S0 k r) {A : Around} (hA : AOk S0 k cx.hn A) {E : Value → Shared → Prop} {v : Expr} {pos : Pos} {Q : TF → ES → Prop} {P : Flow → Shared → Prop}
    (h : r.e cx v es fun v es => Q (.ret (frz v es.cells).1) { es with cells := (frz v es.cells).2 })
    (n : Now K S0 Av F env cx.sc g es s) (p : PostS K S0 Av F env cx.sc g es s Q P) : wpAny (model K.prog K.w) A (exec (.Return (some v) pos) env) P E s :=
  wpAny_Return_some (hr.e cx v es _ h A env Av F g s _ _ hA n fun vv s1 vt es1 g1 h1 n1 k1 r1 =>
    have J := frz_ok n1.inv r1
    p (.ret vv) s1 (.ret _) _ g1 h1 ⟨J.1, n1.env.kp J.2.1⟩ (k1.trans (J.2.1.weak fun _ h => h.elim)) ⟨vv, rfl, J.2.2⟩)
end
end

section
open PySem PySem.W PyProof.Rows

/-- the heap without the stack's frames -/
noncomputable def strip (fs : List Env) (h : Heap) : Heap := fs.foldr (fun e h => e.frame.elim h fun L => h.update L fun o => { o with data := .freed }) h

theorem get_freed (h : Heap) (L b : Addr) : (h.update L fun o => { o with data := .freed }).get? b = if b = L then none else h.get? b := by
  by_cases hb : b = L
  · rw [if_pos hb, hb]
    cases h with
    | mk objs l =>
      show (match (objs.modify L _)[L]? with | some ⟨_, _, .freed, _⟩ => none | o => o) = none
      rw [Array.getElem?_modify, if_pos rfl]
      cases objs[L]? <;> rfl
  · rw [if_neg hb, Heap.get?_update_other _ _ (Ne.symm hb)]

theorem strip_get (fs : List Env) (h : Heap) (b : Addr) (o : Obj) : (strip fs h).get? b = some o ↔ h.get? b = some o ∧ ∀ e ∈ fs, e.frame ≠ some b := by
  induction fs with
  | nil => exact ⟨fun x => ⟨x, fun _ h => nomatch h⟩, And.left⟩
  | cons e r ih =>
    rw [List.forall_mem_cons]
    show (e.frame.elim (strip r h) fun L => (strip r h).update L fun o => { o with data := .freed }).get? b = some o ↔ _
    cases e.frame with
    | none => exact ih.trans (and_congr_right fun _ => ⟨fun x => ⟨nofun, x⟩, And.right⟩)
    | some L =>
      show ((strip r h).update L fun o => { o with data := .freed }).get? b = some o ↔ _
      rw [get_freed]
      by_cases hb : b = L
      · rw [if_pos hb]
        exact ⟨fun z => noneE z, fun z => absurd (congrArg some hb.symm) z.2.1⟩
      · rw [if_neg hb]
        exact ih.trans (and_congr_right fun _ => ⟨fun x => ⟨fun z => hb (Option.some.inj z).symm, x⟩, And.right⟩)

section
variable {G : TG} {K : GK} {S0 : Reg} {Av Av' F : Addr → Prop} {env : Env} {sc : Scope} {g g₁ : Gh} {es es₁ : ES} {s s₁ : Shared} {cells : List Cell} {h' : Heap} {tk : Nat}

theorem strip_stays {fs : List Env} {h : Heap} : (strip fs h).StaysIn h := fun b o e => ((strip_get fs h b o).mp e).1
theorem strip_fresh {fs : List Env} {h : Heap} {a : Addr} (e : h.get? a = none) : (strip fs h).get? a = none := by
  cases q : (strip fs h).get? a with
  | none => rfl
  | some o => exact noneE (e.symm.trans (strip_stays _ _ q))

theorem funFrames_strip {base h : Heap} {l : List Env} (H : ∀ e ∈ l, e.scope.kind ≠ .module ∧ ∃ L, e.frame = some L ∧ base.get? L = none ∧ DictAt h L) : h.FunFrames base l := by
  induction l with
  | nil => trivial
  | cons e r ih =>
    have H := List.forall_mem_cons.mp H
    exact ⟨H.1.1, H.1.2.elim fun L z => z.2.2.elim fun o d => d.elim fun es d => d.elim fun ep d => ⟨L, o, z.1, z.2.1, d.1, fun vs y => Data.noConfusion (d.2.symm.trans y)⟩, ih H.2⟩

theorem Inv.funFrames (I : Inv K S0 Av g cells s) : s.heap.FunFrames (strip S0.fr s.heap) S0.fr := funFrames_strip fun e he => (I.frm e he).imp_right fun z => z.imp fun L y => ⟨y.1, by
  cases q : (strip S0.fr s.heap).get? L with
  | none => rfl
  | some o => exact absurd y.1 (((strip_get _ _ _ _).mp q).2 e he), y.2.2⟩

/-- the frames' slots are laid anew, all else stays -/
theorem Now.after (n : Now K S0 Av F env sc g es s) (hs : (strip S0.fr s.heap).StaysIn h') (hu : s.heap.UpToSlots h') (ht : s.toks ≤ tk) :
    Now K S0 Av F env sc g es { s with heap := h', toks := tk } ∧ Kp Av F g es.cells s g es.cells { s with heap := h', toks := tk } :=
  have I := n.inv
  have hk : ∀ a o, s.heap.get? a = some o → ¬ Frame S0 a → h'.get? a = some o := fun a o e hf => hs a o ((strip_get _ _ _ _).mpr ⟨e, fun e' he z => hf ⟨e', he, z⟩⟩)
  have hall : ∀ a o, s.heap.get? a = some o → ∃ o', h'.get? a = some o' ∧ SameFr o o' := fun a o e => (Classical.em (Frame S0 a)).elim (fun hf => (I.frameAt hf).2.elim fun ob d => d.elim fun es' d => d.elim fun ep d =>
    have hd := (congrArg Obj.data (Option.some.inj (e.symm.trans d.1))).trans d.2
    (hu a o e fun vs w => Data.noConfusion (hd.symm.trans w)).elim fun sl y => ⟨_, y, .inr ⟨es', ep, sl, hd, rfl⟩⟩) fun hf => ⟨o, hk a o e hf, .inl rfl⟩
  have J := I.reAv (Av' := Av) (h' := h') (tk := tk) (fun a o hn e => ⟨hk a o e fun z => hn (I.frameAv z), hn⟩) (fun a ha => (I.avs a ha).elim fun o e => (hall a o e).imp fun _ => And.left) (fun a ha d _ => ⟨ha, d.of (hall a)⟩) ht
  ⟨⟨J.1, n.env.re J.2 n.env.fsub (fun x a hx e => (n.env.freeAt hx e).1) fun a o _ _ e => hall a o e⟩, J.2, fun a o _ _ e => hall a o e, ht, fun a o e => (hall a o e).imp fun _ => And.left⟩

/-- an exception is noted for the first time -/
theorem noteFrame_first {M : Model} {A : Around} {E : Value → Shared → Prop} {base : Heap} {env : Env} {outer : List Env} {L e : Addr} {oe : Obj} {vs : Array Value} {a0 : Value} {Q : Unit → Shared → Prop}
    (hfr : A.frames = some (env :: outer)) (hl : s.heap.FunFrames base (env :: outer)) (hf : env.frame = some L) (he : s.heap.get? e = some oe) (hkb : base.StaysIn s.heap) (hen : base.get? e = none) (hd : oe.data = .fields vs) (h0 : vs[0]? = some a0) (h1 : vs[1]? = some .none)
    (h : ∀ h', Heap.NotedW base (env :: outer) e oe.cls a0 (rawInt L) s.heap h' → Q () { s with heap := h' }) : wpAny M A (noteFrame (.ref e) env) Q E s := by
  unfold noteFrame
  simp only [hf]
  refine wpAny_bind (wpAny_field he hd h1 ?_)
  rw [if_neg (by decide)]
  exact wpAny_entryW hfr hl hf he hkb hen hd (Array.getElem?_eq_some_iff.mp h1).1 h0 h
end
end

section
open PySem PySem.W PyProof.Rows

theorem check_next (a : Addr) : checkBoundCall "list_iterator.__next__" ⟨[.ref a], []⟩ = pure () := by first | rfl | kernel_rfl
theorem quiet_next (args : Args) : (Code.builtin "list_iterator.__next__" args).quiet = true := Code.quiet_builtin _ (by decide +kernel)

section
variable {prog : Program} {w : World} {A : Around} {E : Value → Shared → Prop} {s : Shared}

noncomputable abbrev iterObj (l : Addr) (i : Nat) : Obj := { cls := .type "list_iterator", data := .fields #[.ref l, .int i 0] }

/-- a bound __next__, called -/
theorem call_next {q it l : Addr} {vs : List Value} {n i : Nat} {Q : Value → Shared → Prop} {o : Obj} (hq : s.heap.get? q = some o) (hc : o.cls = .type "method-wrapper") (hd : o.data = .fields #[.builtin "list_iterator.__next__", .ref it]) (hit : s.heap.get? it = some (iterObj l i)) (ho : s.heap.get? l = some (listObj vs n))
    (h1 : ∀ x, vs[i]? = some x → Q x { s with heap := s.heap.update it (Obj.mapFields (·.setIfInBounds 1 (rawInt (i + 1)))) })
    (h2 : vs[i]? = none → A.handled = none ∧ ∀ h' e, Heap.NewExc (s.heap.update it (Obj.mapFields (·.setIfInBounds 0 .none))) h' e "StopIteration" → E (.ref e) { s with heap := h' }) : wpAny (model prog w) A (call (.ref q) []) Q E s := by
  refine wpAny_call (codeAny_of_tree ?_)
  show wpAny _ A.in1 (callAny (.ref q) ⟨[], []⟩) _ _ s
  simp only [callAny]
  refine wpAny_bind (wpAny_load hq ?_)
  refine hide fun hG => ?_
  obtain ⟨c, dd, dat, sl⟩ := o
  refine hG ?_
  clear hG
  dsimp only at hc hd
  subst hc hd
  simp only [show (Value.type "method-wrapper" == Value.type "method" || Value.type "method-wrapper" == Value.type "builtin_function_or_method" || Value.type "method-wrapper" == Value.type "method-wrapper") = true by decide, if_true]
  show wpAny _ _ (if (Value.type "method-wrapper" != Value.type "method") = true then _ else _) _ _ _
  rw [if_pos (by decide)]
  refine wpAny_bind (wpAny_of_eq (check_next it) ?_)
  refine wpAny_bind (wpAny_pure (wpAny_pure ?_))
  refine ⟨quiet_next _, codeAny_builtin entry_listiter_next ?_⟩
  rw [Around.under_plainId slot_listiter_next.plain _]
  show wpAny _ _ (field (.ref it) 0 >>= _) _ _ s
  refine wpAny_bind (wpAny_field hit rfl (x := .ref l) rfl ?_)
  show wpAny _ _ (if (Value.ref l == Value.none) = true then _ else _) _ _ s
  rw [if_neg (show ¬ ((Value.ref l == Value.none) = true) from Bool.false_ne_true)]
  show wpAny _ _ (field (.ref it) 1 >>= _) _ _ s
  refine wpAny_bind (wpAny_field hit rfl (x := .int i 0) rfl ?_)
  show wpAny _ _ (seqItems? (.ref l) >>= _) _ _ s
  refine wpAny_bind (wpAny_seqItems ho rfl ?_)
  cases hx : vs[i]? with
  | some x =>
    have hx' : vs.toArray[(i : Int).toNat]? = some x := by simpa using hx
    simp only [hx']
    refine wpAny_bind (wpAny_setField hit rfl (by simp) (wpAny_pure ?_))
    exact h1 x hx
  | none =>
    have hx' : vs.toArray[(i : Int).toNat]? = none := by simpa using hx
    obtain ⟨hh, h2⟩ := h2 hx
    simp only [hx']
    refine wpAny_bind (wpAny_rule (wpAny_bind (wpAny_setField hit rfl (by simp) ?_)))
    show wpAny _ _ (newExc (.type "StopIteration") [] >>= _) _ _ _
    refine wpAny_bind ?_
    simp only [newExc, newTuple]
    refine wpAny_bind (wpAny_newObj_type ?_ (by size_fits))
    refine wpAny_bind (m := firstArgMember _ _) (wpAny_of_eq (a := Value.none) (by first | rfl | (simp only [firstArgMember]; rfl)) ?_)
    refine wpAny_newObj_type ?_ (by size_fits)
    refine wpAny_raiseNew_none hh ?_
    refine h2 _ _ ⟨fun b o hb => Heap.get?_push_of_some _ (Heap.get?_push_of_some _ hb), Heap.get?_none_of_le (by simp), _, _, Heap.get?_push_size _ rfl, rfl, rfl⟩
end

open PySem PySem.W PyProof.Rows
section
variable {G : TG} {K : GK} {S0 : Reg} {Av Av' F : Addr → Prop} {env : Env} {sc : Scope} {g g₁ : Gh} {es es₁ : ES} {s s₁ : Shared} {cells : List Cell} {h' : Heap} {tk : Nat}

theorem top_frame (I : Inv K S0 Av g cells s) (h : S0.fr.head? = some env) : ∃ outer L, S0.fr = env :: outer ∧ env.frame = some L := by
  cases hf : S0.fr with
  | nil =>
    rw [hf] at h
    exact noneE h
  | cons e outer =>
    rw [hf] at h
    exact Option.some.inj h ▸ (I.frm e (hf ▸ .head _)).2.elim fun L z => ⟨outer, L, rfl, z.1⟩

theorem AOk.marked {k : Nat} {hn : Bool} {A : Around} (h : AOk S0 k hn A) (x : Option Value) : AOk S0 k false (A.mark x) := ⟨h.depth, h.units, fun z => absurd z Bool.false_ne_true, h.frames⟩

/-- a handler's suite -/
theorem suite_ok {r : Rec} {k : Nat} {cx : Cx} (hr : Snd K S0 k r) {A : Around} (hA : AOk S0 k cx.hn A) {E : Value → Shared → Prop} {hb : List Stmt} {Q : TF → ES → Prop} {P : Flow → Shared → Prop} {e : Addr} {cls a0 : Value}
    (htop : S0.fr.head? = some env) (n : Now K S0 Av F env cx.sc g es s) (hfl : Heap.FlyingW (strip S0.fr s.heap) S0.fr e cls a0 h') (hu : s.heap.UpToSlots h')
    (h : r.s { cx with hn := false } hb es (elseK Q)) (p : PostS K S0 Av F env cx.sc g es s Q P) :
    wpAny (model K.prog K.w) (A.mark (some (.ref e))) (setFlight (.ref e) none) (fun _ s₂ => wpAny (model K.prog K.w) (A.mark (some (.ref e))) (execs hb env) P E s₂) E { s with heap := h' } :=
  lands_againW (s := { s with heap := h' }) hfl fun h5 hfl5 hu5 =>
    have N := n.after (h' := h5) (tk := s.toks) hfl5.1 (hu.trans hu5) (Nat.le_refl _)
    hr.s { cx with hn := false } hb es _ h (A.mark (some (.ref e))) env Av F g _ _ _ (hA.marked _) htop N.1 (fun fl s6 tf es6 g6 h6 n6 k6 rf => p fl s6 tf es6 g6 h6.2 n6 (N.2.trans k6) rf) fun _ _ _ _ _ _ _ q => False.elim q.1

theorem stop_base : isSubtype (.type "StopIteration") (.type "BaseException") = pure true := by rw [isSubtype_type]; kernel_rfl
theorem stop_meta : isSubtype (.type ((Manifest.find? "StopIteration").elim "type" fun x => x.metatype)) (.type "tuple") = pure false := by rw [isSubtype_type]; kernel_rfl
theorem stop_self : isSubtype (.type "StopIteration") (.type "StopIteration") = pure true := by rw [isSubtype_type]; kernel_rfl

/-- the end of what is gone over, caught -/
theorem stop_ok {r : Rec} {k : Nat} {cx : Cx} (hB : Base G K) (hr : Snd K S0 k r) {A : Around} (hA : AOk S0 k cx.hn A) {E : Value → Shared → Prop} {ep hp : Pos} {b₀ : Stmt} {hb : List Stmt} {Q : TF → ES → Prop} {P : Flow → Shared → Prop} {e : Addr}
    (htop : S0.fr.head? = some env) (hname : nameTV G cx.sc es.loc "StopIteration" = some (.g (.type "StopIteration"))) (h : r.s { cx with hn := false } (b₀ :: hb) es (elseK Q)) (n : Now K S0 Av F env cx.sc g es s) (p : PostS K S0 Av F env cx.sc g es s Q P) (hx : Heap.NewExc s.heap h' e "StopIteration") :
    wpAny (model K.prog K.w) A (noteFrame (.ref e) env) (fun _ s₁ => wpAny (model K.prog K.w) A (setFlight (.ref e) none) (fun _ s₂ => wpAny (model K.prog K.w) A (handleBy (.ref e) env [.ExceptHandler (some (.Name "StopIteration" ep)) none (b₀ :: hb) hp]) P E s₂) E s₁) E { s with heap := h' } := by
  refine (top_frame n.inv htop).elim fun outer z => z.elim fun L z => hx.there.elim fun ob y => y.elim fun t0 y => ?_
  have hF0 := n.inv.funFrames
  have hkb : (strip S0.fr s.heap).StaysIn h' := fun b o z => hx.keeps b o (strip_stays b o z)
  have hfrA : A.frames = some (env :: outer) := hA.frames.trans (congrArg some z.1)
  rw [z.1] at hF0 hkb
  refine noteFrame_first (s := { s with heap := h' }) hfrA (hF0.of_keeps fun b o e _ => ⟨o, hx.keeps b o e, rfl⟩) z.2 y.1 hkb (strip_fresh hx.new) y.2.2 rfl rfl fun h3 w => ?_
  refine wpAny_setFlight_noneW (s := { s with heap := h3 }) w.1 w.2.1 w.2.2.1 fun h4 v1 v2 v3 v4 => ?_
  have hu4 : s.heap.UpToSlots h4 := fun b o e hd => (w.2.2.2 b o (hx.keeps b o e) hd).imp fun sl e' => v4 b _ e' hd
  rw [← z.1] at v1 v2 v3
  have N := n.after (h' := h4) (tk := s.toks) v1 hu4 (Nat.le_refl _)
  refine (name_same (pos := ep) hB N.1 hname).elim fun tv q => ?_
  exact wpAny_handleBy_builtin (X := "StopIteration") (T := "StopIteration") (b := true) stop_base stop_meta stop_self (q.2 _ _ _ ⟨q.1.gE rfl,
    v3.elim fun oe w => w.elim fun _ w => w.elim fun _ w => w.elim fun _ w => w.elim fun _ w => ⟨oe, w.1, w.2.1.1.trans y.2.1⟩, suite_ok hr hA htop n ⟨v1, strip_fresh hx.new, v2, v3⟩ hu4 h p⟩)

theorem nextTry_ok {r : Rec} {k : Nat} {cx : Cx} (hB : Base G K) (hr : Snd K S0 k r) {A : Around} (hA : AOk S0 k cx.hn A) {E : Value → Shared → Prop} {x : Str} {f : Expr} {px cp ap bp ep hp pos : Pos} {b₀ : Stmt} {hb : List Stmt} {Q : TF → ES → Prop} {P : Flow → Shared → Prop}
    (htop : S0.fr.head? = some env) (h : nextTry G r cx x f (b₀ :: hb) es Q) (n : Now K S0 Av F env cx.sc g es s) (p : PostS K S0 Av F env cx.sc g es s Q P) :
    wpAny (model K.prog K.w) A (exec (.Try [.Assign [.Name x px] (.Call f [] [] cp) ap, .Break bp] [.ExceptHandler (some (.Name "StopIteration" ep)) none (b₀ :: hb) hp] [] [] pos) env) P E s :=
  wpAny_Try_except (wpAny_execs_cons (wpAny_Assign_Name (Call_ (hr.e cx f es _ h.2.2 A env Av F g s _ _ hA n fun fv s1 ft es1 g1 h1 n1 k1 r1 => h1.elim fun m h1 => h1.elim fun src h1 => h1.elim fun i h1 => h1.elim fun xs h1 =>
    (show Rp _ _ (.bm m _) fv from h1.1 ▸ r1).elim fun it y => y.elim fun q y => y.elim fun oq y => (n1.inv.cell _ _ _ h1.2.1 y.2.1).elim fun l w => (n1.inv.cell _ _ _ h1.2.2.1 w.2).elim fun us u => u.elim fun nn u => by
      have e := y.1
      subst e
      refine callWith_any (evalArgs_nil3 ⟨kept_bm y.2.2.1.1 y.2.2.2.1 y.2.2.2.2, call_next y.2.2.1.1 y.2.2.2.1 y.2.2.2.2 w.1 u.1 (fun v hv => (F2.getv u.2 hv).elim fun tv rv => ?_) fun hv => ?_⟩)
      · have J := n1.inv.setCell (h' := s1.heap.update it (Obj.mapFields (·.setIfInBounds 1 (rawInt ((i : Int) + 1))))) (tk := s1.toks) (c' := .iter src (i + 1)) h1.2.1 y.2.1 rfl keep_update (Heap.get?_update_self _ w.1 rfl) (Nat.le_refl _) fun le => ⟨l, Heap.get?_update_self _ w.1 rfl, le.am w.2⟩
        have N2 : Now K S0 Av F env cx.sc g1 { es1 with cells := es1.cells.set m (.iter src (i + 1)) } { s1 with heap := s1.heap.update it (Obj.mapFields (·.setIfInBounds 1 (rawInt ((i : Int) + 1)))) } := ⟨J.1, n1.env.kp J.2⟩
        exact h1.2.2.2.elim (fun z => z.elim fun tv' z => store_ok N2 ((Option.some.inj (rv.1.symm.trans z.1) ▸ rv.2 : Rp _ _ tv' v).mono J.2.le) z.2 fun s3 es3 g3 h3 n3 k3 => wpAny_execs_cons (wpAny_Break (p .brk s3 .brk es3 g3 h3 n3 ((k1.trans (J.2.weak fun _ h => h.elim)).trans k3) rfl)))
          fun z => noneE (z.1.symm.trans rv.1)
      · have hx : xs[i]? = none := List.getElem?_eq_none (u.2.length ▸ List.getElem?_eq_none_iff.mp hv)
        have J := n1.inv.setCell (h' := s1.heap.update it (Obj.mapFields (·.setIfInBounds 0 .none))) (tk := s1.toks) (c' := .dead) h1.2.1 y.2.1 rfl keep_update (Heap.get?_update_self _ w.1 rfl) (Nat.le_refl _) fun le => trivial
        have N2 : Now K S0 Av F env cx.sc g1 { es1 with cells := es1.cells.set m .dead } { s1 with heap := s1.heap.update it (Obj.mapFields (·.setIfInBounds 0 .none)) } := ⟨J.1, n1.env.kp J.2⟩
        exact ⟨hA.hand h.1, fun h' e hx' => h1.2.2.2.elim (fun z => z.elim fun _ z => noneE (hx.symm.trans z.1)) fun z => stop_ok (s := { s1 with heap := s1.heap.update it (Obj.mapFields (·.setIfInBounds 0 .none)) }) (es := { es1 with cells := es1.cells.set m .dead }) hB hr hA htop z.2.1 z.2.2 N2 (p.on (es₁ := { es1 with cells := es1.cells.set m .dead }) (k1.trans (J.2.weak fun _ h => h.elim))) hx'⟩) (h.2.1 _ env)) rfl))
end
end

section
open PySem PySem.W PyProof.Rows

/-- the loop that fills in defaults, one turn -/
noncomputable def fill1 (p : Str × Value) (r : List (Str × Value)) : Sem (ForInStep (List (Str × Value))) := if (r.lookup p.1).isNone = true then pure (ForInStep.yield (r ++ [(p.1, p.2)])) else pure (ForInStep.yield r)
noncomputable def named (ps : List Str) (sl : List (Str × Value)) : List (Str × Value) := ps.filterMap fun n => (sl.lookup n).map (n, ·)

noncomputable def tailD (kw : Option Str) (b : List (Str × Value)) : Sem (List (Str × Value)) := match kw with | some a => alloc { cls := .type "dict", data := .dict #[] } >>= fun d => pure (b ++ [(a, .ref d)]) | none => pure b
noncomputable def tailK (va kw : Option Str) (rest : List Value) (b : List (Str × Value)) : Sem (List (Str × Value)) := match va with | some a => newTuple rest >>= fun t => tailD kw (b ++ [(a, t)]) | none => tailD kw b

theorem bindArgs_eq (fd : FuncData) (ps : List Arg) (va kw : Option Arg) (kd : List (Option Expr)) (df : List Expr) (vs : List Value) :
    ∃ (er1 er2 : Option (Array Value) → Sem (List (Str × Value))) (tail : Option (Array Value) → List (Str × Value) → Sem (List (Str × Value))),
      bindArgs { fd with params := ⟨[], ps, va, [], kd, kw, df⟩ } ⟨vs, []⟩ = (seqItems? fd.defaults >>= fun o => if (decide (vs.length > (ps.map (·.arg)).length) && va.isNone) = true then er1 o else
        if (!(((ps.map (·.arg)).take ((ps.map (·.arg)).length - ((o.getD #[]).toList.drop ((o.getD #[]).toList.length - (ps.map (·.arg)).length)).length)).filter fun n => (((ps.map (·.arg)).zip vs).lookup n).isNone).isEmpty) = true then er2 o else
          forIn (((ps.map (·.arg)).drop ((ps.map (·.arg)).length - ((o.getD #[]).toList.drop ((o.getD #[]).toList.length - (ps.map (·.arg)).length)).length)).zip ((o.getD #[]).toList.drop ((o.getD #[]).toList.length - (ps.map (·.arg)).length))) ((ps.map (·.arg)).zip vs) fill1 >>= tail o) ∧
      ∀ o sl, tail o sl = tailK (va.map (·.arg)) (kw.map (·.arg)) (vs.drop (ps.map (·.arg)).length) (named (ps.map (·.arg) ++ []) sl) := by
  refine ⟨_, _, _, rfl, fun o sl => ?_⟩
  cases va
  · cases kw
    · rfl
    · rfl
  · cases kw
    · rfl
    · rfl
theorem zip_get {ps : List Str} (hn : ps.Nodup) : ∀ {us : List Value} {i : Nat} {n : Str}, ps[i]? = some n → (ps.zip us).lookup n = us[i]? := by
  induction ps with
  | nil => exact fun h => noneE h
  | cons p ps ih =>
    have hn := List.nodup_cons.mp hn
    intro us i n h
    cases us with
    | nil => rfl
    | cons u us =>
      rw [List.zip_cons_cons, List.lookup_cons]
      cases i with
      | zero => rw [beq_iff_eq.mpr (Option.some.inj h).symm]; rfl
      | succ i => rw [beq_false_of_ne fun e : n = p => hn.1 (e ▸ List.mem_of_getElem? h)]; exact ih hn.2 h
theorem filter_look {p : Str → Bool} {n : Str} (h : p n = true) (l : List (Str × Value)) : (l.filter fun q : Str × Value => p q.1).lookup n = l.lookup n := by
  induction l with
  | nil => rfl
  | cons q l ih =>
    show (match p q.1 with | true => q :: l.filter fun q : Str × Value => p q.1 | false => l.filter fun q : Str × Value => p q.1).lookup n = (match n == q.1 with | true => some q.2 | false => l.lookup n)
    cases e : n == q.1 with
    | true =>
      rw [← eq_of_beq e, h]
      show (match n == q.1 with | true => some q.2 | false => _) = _
      rw [e]
    | false =>
      cases p q.1 with
      | true =>
        show (match n == q.1 with | true => some q.2 | false => (l.filter fun q : Str × Value => p q.1).lookup n) = _
        rw [e]
        exact ih
      | false => exact ih
theorem named_zip {sl : List (Str × Value)} {ps : List Str} : ∀ {w : List Value}, w.length = ps.length → (∀ (i : Nat) (n : Str), ps[i]? = some n → sl.lookup n = w[i]?) → named ps sl = ps.zip w := by
  induction ps with
  | nil => exact fun _ _ => rfl
  | cons p ps ih =>
    intro w hl h
    cases w with
    | nil => exact absurd hl nofun
    | cons u w => exact (List.filterMap_cons_some (f := fun n => (sl.lookup n).map (n, ·)) (congrArg (Option.map (p, ·)) (h 0 p rfl))).trans (congrArg ((p, u) :: ·) (ih (Nat.succ.inj hl) fun i n e => h (i + 1) n e))
/-- the loop that fills in defaults -/
theorem fill_ok {l : List (Str × Value)} : ∀ {sl : List (Str × Value)}, (l.map (·.1)).Nodup → (forIn l sl fill1 : Sem (List (Str × Value))) = pure (sl ++ l.filter fun q : Str × Value => (sl.lookup q.1).isNone) := by
  induction l with
  | nil => exact fun {sl} _ => (congrArg pure (List.append_nil sl).symm : (pure sl : Sem _) = _)
  | cons q l ih =>
    intro sl hn
    have hn := List.nodup_cons.mp hn
    rw [List.forIn_cons]
    cases e : (sl.lookup q.1).isNone with
    | true =>
      rw [show fill1 q sl = pure (.yield (sl ++ [q])) from if_pos e, pure_bind, List.filter_cons_of_pos (p := fun q : Str × Value => (sl.lookup q.1).isNone) e]
      refine (ih hn.2).trans (congrArg pure ?_)
      rw [List.append_assoc, List.filter_congr fun r hr => ?_]
      · rfl
      · rw [List.lookup_append, show [q].lookup r.1 = none from lookup_none_of fun a ha => hn.1 (List.mem_map.mpr ⟨r, hr, (Prod.mk.inj (List.mem_singleton.mp ha)).1 ▸ rfl⟩), Option.or_none]
    | false => rw [show fill1 q sl = pure (.yield sl) from if_neg (Bool.eq_false_iff.mp e), pure_bind, List.filter_cons_of_neg (p := fun q : Str × Value => (sl.lookup q.1).isNone) (Bool.eq_false_iff.mp e)]; exact ih hn.2

/-- the arguments of a def, laid out -/
noncomputable def laid (ps : List Str) (vs ds : List Value) : List (Str × Value) := ps.zip (vs.take ps.length ++ ds.drop (ds.length - (ps.length - vs.length)))

theorem laid_ok {ps : List Str} {vs ds : List Value} (hn : ps.Nodup) (hk : ds.length ≤ ps.length) (hm : ps.length - vs.length ≤ ds.length) :
    (forIn ((ps.drop (ps.length - ds.length)).zip ds) (ps.zip vs) fill1 : Sem _) = pure (ps.zip vs ++ ((ps.drop (ps.length - ds.length)).zip ds).filter fun q => ((ps.zip vs).lookup q.1).isNone) ∧
      named ps (ps.zip vs ++ ((ps.drop (ps.length - ds.length)).zip ds).filter fun q => ((ps.zip vs).lookup q.1).isNone) = laid ps vs ds := by
  have hnd : (ps.drop (ps.length - ds.length)).Nodup := hn.sublist (List.drop_sublist _ _)
  have hpd : ps.length - ds.length ≤ vs.length := Nat.sub_le_iff_le_add'.mpr (Nat.sub_le_iff_le_add.mp hm)
  refine ⟨fill_ok ?_, named_zip ?_ fun i n e => ?_⟩
  · rw [List.map_fst_zip (Nat.le_of_eq (by rw [List.length_drop]; exact Nat.sub_sub_self hk))]
    exact hnd
  · rw [List.length_append, List.length_take, List.length_drop, Nat.sub_sub_self hm, Nat.add_comm]
    exact Nat.sub_add_min_cancel ..
  · have hi := (List.getElem?_eq_some_iff.mp e).1
    cases hv : vs[i]? with
    | some v =>
      have hv' := (List.getElem?_eq_some_iff.mp hv).1
      rw [ap_hit ((zip_get hn e).trans hv), List.getElem?_append_left (by rw [List.length_take]; exact Nat.lt_min.mpr ⟨hi, hv'⟩), List.getElem?_take_of_lt hi, hv]
    | none =>
      have hv' := List.getElem?_eq_none_iff.mp hv
      have hz := (zip_get hn e).trans hv
      rw [ap_miss hz, filter_look (p := fun x => ((ps.zip vs).lookup x).isNone) (congrArg Option.isNone hz), List.take_of_length_le (Nat.le_of_lt (Nat.lt_of_le_of_lt hv' hi)), List.getElem?_append_right hv', List.getElem?_drop,
        zip_get hnd (i := i - (ps.length - ds.length)) (by rw [List.getElem?_drop, ← e]; exact congrArg (ps[·]?) (Nat.add_sub_of_le (Nat.le_trans hpd hv')))]
      exact congrArg (ds[·]?) (by rw [Nat.sub_sub_right _ (Nat.le_of_lt (Nat.lt_of_le_of_lt hv' hi)), Nat.add_comm ds.length, ← Nat.sub_sub_right _ hk, Nat.add_comm]; exact (Nat.sub_add_sub_cancel hv' hpd).symm)

section
variable {M : Model} {A : Around} {E : Value → Shared → Prop} {s : Shared}
/-- what binding hands on -/
noncomputable def bound1 (va : Option Str) (ps : List Str) (vs ds : List Value) (s : Shared) : List (Str × Value) × Shared := match va with
  | some a => (laid ps vs ds ++ [(a, .ref s.heap.objs.size)], { s with heap := s.heap.push (tupObj (vs.drop ps.length) 0) })
  | none => (laid ps vs ds, s)
noncomputable def bound2 (kw : Option Str) (b : List (Str × Value)) (s : Shared) : List (Str × Value) × Shared := match kw with
  | some a => (b ++ [(a, .ref s.heap.objs.size)], { s with heap := s.heap.push { cls := .type "dict", data := .dict #[] } })
  | none => (b, s)

theorem bindArgs_ok {fd : FuncData} {ps : List Str} {vs ds : List Value} {P : List (Str × Value) → Shared → Prop} (hpo : fd.params.posonlyargs = []) (hko : fd.params.kwonlyargs = []) (hps : fd.params.args.map (·.arg) = ps) (hn : ps.Nodup)
    (hds : (fd.defaults = .none ∧ ds = []) ∨ ∃ T o n, fd.defaults = .ref T ∧ s.heap.get? T = some o ∧ o.data = .seq ds.toArray n)
    (hk : ds.length ≤ ps.length) (hm : ps.length - vs.length ≤ ds.length) (hva : vs.length ≤ ps.length ∨ (fd.params.vararg.map (·.arg)).isSome = true) (hsz : vs.length ≤ sizeLine)
    (h : P (bound2 (fd.params.kwarg.map (·.arg)) (bound1 (fd.params.vararg.map (·.arg)) ps vs ds s).1 (bound1 (fd.params.vararg.map (·.arg)) ps vs ds s).2).1 (bound2 (fd.params.kwarg.map (·.arg)) (bound1 (fd.params.vararg.map (·.arg)) ps vs ds s).1 (bound1 (fd.params.vararg.map (·.arg)) ps vs ds s).2).2) : wpAny M A (bindArgs fd ⟨vs, []⟩) P E s := by
  have e : bindArgs fd ⟨vs, []⟩ = bindArgs { fd with params := ⟨[], fd.params.args, fd.params.vararg, [], fd.params.kw_defaults, fd.params.kwarg, fd.params.defaults⟩ } ⟨vs, []⟩ := by
    have key : ∀ {a b : List Arg}, fd.params.posonlyargs = a → fd.params.kwonlyargs = b → bindArgs fd ⟨vs, []⟩ = bindArgs { fd with params := ⟨a, fd.params.args, fd.params.vararg, b, fd.params.kw_defaults, fd.params.kwarg, fd.params.defaults⟩ } ⟨vs, []⟩ := fun e e' => e ▸ e' ▸ rfl
    exact key hpo hko
  rw [e]
  refine (bindArgs_eq fd fd.params.args fd.params.vararg fd.params.kwarg fd.params.kw_defaults fd.params.defaults vs).elim fun er1 z => z.elim fun er2 z => z.elim fun tail z => ?_
  rw [z.1, hps]
  have tl := z.2
  rw [hps, List.append_nil] at tl
  clear z e
  have hdef : ∀ {Q : Option (Array Value) → Shared → Prop}, (∀ o, (o.getD #[]).toList = ds → Q o s) → wpAny M A (seqItems? fd.defaults) Q E s := fun hq =>
    hds.elim (fun z => by rw [z.1]; exact wpAny_of_eq (a := none) rfl (hq none z.2.symm)) fun z => z.elim fun T z => z.elim fun o z => z.elim fun n z => by rw [z.1]; exact wpAny_seqItems z.2.1 z.2.2 (hq _ rfl)
  refine wpAny_bind (hdef fun o ho => ?_)
  have c1 : ¬ ((decide (vs.length > ps.length) && fd.params.vararg.isNone) = true) := fun z =>
    have z := Bool.and_eq_true_iff.mp z
    hva.elim (Nat.not_le_of_gt (of_decide_eq_true z.1)) fun w => by
      have z := z.2
      revert z w
      cases fd.params.vararg with
      | none => exact fun w => absurd w Bool.false_ne_true
      | some a => exact fun _ z => absurd z Bool.false_ne_true
  have e0 : ds.drop (ds.length - ps.length) = ds := by rw [Nat.sub_eq_zero_of_le hk]; rfl
  have e1 : (ps.take (ps.length - ds.length)).filter (fun n => ((ps.zip vs).lookup n).isNone) = [] := List.filter_eq_nil_iff.mpr fun x hx hz => (List.getElem?_of_mem hx).elim fun i e => by
    have hi := (List.getElem?_eq_some_iff.mp e).1
    rw [List.length_take] at hi
    rw [zip_get hn ((List.getElem?_take_of_lt (Nat.lt_of_lt_of_le hi (Nat.min_le_left _ _))).symm.trans e), List.getElem?_eq_getElem (Nat.lt_of_lt_of_le (Nat.lt_of_lt_of_le hi (Nat.min_le_left _ _)) (Nat.sub_le_iff_le_add'.mpr (Nat.sub_le_iff_le_add.mp hm)))] at hz
    exact Bool.false_ne_true hz
  have L := laid_ok hn hk hm
  rw [ho, if_neg c1, e0, e1, if_neg (show ¬ (!([] : List Str).isEmpty) = true from Bool.false_ne_true), L.1]
  show wpAny M A (tail o _) P E s
  rw [tl, L.2]
  clear tl e0 e1 L c1 hdef
  have fin : ∀ {b : List (Str × Value)} {s : Shared}, P (bound2 (fd.params.kwarg.map (·.arg)) b s).1 (bound2 (fd.params.kwarg.map (·.arg)) b s).2 → wpAny M A (tailD (fd.params.kwarg.map (·.arg)) b) P E s := fun {b s} => by
    cases fd.params.kwarg.map (·.arg) with
    | none => exact wpAny_pure
    | some a => exact fun h => wpAny_bind (wpAny_alloc (wpAny_pure h))
  revert h
  cases fd.params.vararg.map (·.arg) with
  | none => exact fin
  | some a => exact fun h => wpAny_bind (wpAny_newObj_type (fin h) (show (vs.drop ps.length).toArray.size ≤ sizeLine from Nat.le_trans (Nat.le_of_eq (List.length_drop ..)) (Nat.le_trans (Nat.sub_le _ _) hsz)))
end
end

section
open PySem PySem.W PyProof.Rows

/-- names, each with a value and what it stands for -/
noncomputable def BR (ad : Str → Option Addr) (W : Wd) : List (Str × TV) → List (Str × Value) → Prop := F2 fun p q => q.1 = p.1 ∧ Rp ad W p.2 q.2

section
variable {ad : Str → Option Addr} {W W' : Wd}
theorem BR.mono (h : W.Le W') {l : List (Str × TV)} {b : List (Str × Value)} (r : BR ad W l b) : BR ad W' l b := F2.imp (fun _ _ => And.imp_right (Rp.mono h)) _ _ r
theorem BR.names {l : List (Str × TV)} : ∀ {b : List (Str × Value)}, BR ad W l b → b.map (·.1) = l.map (·.1) := by
  induction l with
  | nil => exact fun r => by rw [show _ = [] from r]; rfl
  | cons p l ih => exact fun r => r.elim fun q r => r.elim fun b z => z.1 ▸ (congrArg (· :: _) z.2.1.1).trans (congrArg (p.1 :: ·) (ih z.2.2))
theorem BR.zip {ps : List Str} : ∀ {xs : List TV} {vs : List Value}, RpL ad W xs vs → BR ad W (ps.zip xs) (ps.zip vs) := by
  induction ps with
  | nil => exact fun _ => F2.nil
  | cons p ps ih =>
    intro xs vs r
    cases xs with
    | nil => exact r.nilE F2.nil
    | cons x xs => exact r.consE fun v us a b => F2.cons ⟨rfl, a⟩ (ih b)
theorem BR.look {l : List (Str × TV)} {x : Str} {tv : TV} : ∀ {b : List (Str × Value)}, BR ad W l b → lookD l x = some tv → ∃ v, b.lookup x = some v ∧ Rp ad W tv v := by
  induction l with
  | nil => exact fun _ h => noneE h
  | cons p l ih =>
    exact fun r h => r.elim fun q r => r.elim fun b z => z.1 ▸ by
      by_cases e : p.1 = x
      · exact ⟨q.2, by rw [List.lookup_cons, z.2.1.1, e, beq_self_eq_true], Option.some.inj ((if_pos e).symm.trans h) ▸ z.2.1.2⟩
      · rw [List.lookup_cons, z.2.1.1, beq_false_of_ne (Ne.symm e)]
        exact ih z.2.2 ((if_neg e).symm.trans h)
theorem DefR.drop {cs : List Const} : ∀ {vs : List Value}, DefR ad cs vs → ∀ n, RpL ad W ((cs.drop n).filterMap constTV) (vs.drop n) := by
  induction cs with
  | nil => exact fun r n => by rw [show _ = [] from r, List.drop_nil, List.drop_nil]; exact .nil
  | cons c cs ih =>
    exact fun r n => r.elim fun v r => r.elim fun vs z => z.1 ▸ by
      cases n with
      | zero => exact z.2.1.elim fun tv y => by rw [List.drop_zero, List.filterMap_cons_some y.1]; exact .cons (y.2 W) (ih z.2.2 0)
      | succ n => exact ih z.2.2 n
end

theorem bindL_miss {kindOf : Str → Option NameKind} {b : List (Str × Value)} {x : Str} : ∀ {m : Str → Option Value}, x ∉ b.map (·.1) → bindL kindOf b m x = m x := by
  induction b with
  | nil => exact fun _ => rfl
  | cons q b ih => exact fun h => (ih fun z => h (.tail _ z)).trans (ite2 (f := fun z : Str → Option Value => z x = _) (fun _ => if_neg fun e : x = q.1 => h (List.mem_cons.mpr (.inl e))) fun _ => rfl)
theorem bindL_hit {kindOf : Str → Option NameKind} {b : List (Str × Value)} {x : Str} {v : Value} (hk : kindOf x = some .local) : ∀ {m : Str → Option Value}, (b.map (·.1)).Nodup → b.lookup x = some v → bindL kindOf b m x = some v := by
  induction b with
  | nil => exact fun _ h => noneE h
  | cons q b ih =>
    intro m hn h
    have hn := List.nodup_cons.mp hn
    rw [List.lookup_cons] at h
    cases e : x == q.1 with
    | true =>
      rw [e] at h
      have e := eq_of_beq e
      subst e
      exact (bindL_miss hn.1).trans ((congrArg (fun z : Str → Option Value => z q.1) (if_pos hk)).trans ((if_pos rfl).trans h))
    | false =>
      rw [e] at h
      exact ih hn.2 h
theorem bindC_miss {kindOf : Str → Option NameKind} {b : List (Str × Value)} {x : Str} : ∀ {m : Str → Option Value}, x ∉ b.map (·.1) → bindC kindOf b m x = m x := by
  induction b with
  | nil => exact fun _ => rfl
  | cons q b ih => exact fun h => (ih fun z => h (.tail _ z)).trans (ite2 (f := fun z : Str → Option Value => z x = _) (fun _ => rfl) fun _ => if_neg fun e : x = q.1 => h (List.mem_cons.mpr (.inl e)))
theorem bindC_hit {kindOf : Str → Option NameKind} {b : List (Str × Value)} {x : Str} {v : Value} (hk : ¬ kindOf x = some .local) : ∀ {m : Str → Option Value}, (b.map (·.1)).Nodup → b.lookup x = some v → bindC kindOf b m x = some v := by
  induction b with
  | nil => exact fun _ h => noneE h
  | cons q b ih =>
    intro m hn h
    have hn := List.nodup_cons.mp hn
    rw [List.lookup_cons] at h
    cases e : x == q.1 with
    | true =>
      rw [e] at h
      have e := eq_of_beq e
      subst e
      exact (bindC_miss hn.1).trans ((congrArg (fun z : Str → Option Value => z q.1) (if_neg hk)).trans ((if_pos rfl).trans h))
    | false =>
      rw [e] at h
      exact ih hn.2 h

section
variable {G : TG} {K : GK} {S0 : Reg} {Av Av' F : Addr → Prop} {env : Env} {sc : Scope} {g g₁ : Gh} {es es₁ : ES} {s s₁ : Shared} {cells : List Cell} {h' : Heap} {tk : Nat}

/-- one frame more on the stack -/
theorem Inv.push (I : Inv K S0 Av g cells s) (hk : env.scope.kind ≠ .module) {L : Addr} (hf : env.frame = some L) (hL : Av L) (d : DictAt s.heap L) : Inv K ⟨S0.st, env :: S0.fr⟩ Av g cells s :=
  ⟨I.same, I.base, I.avs, I.ams, I.len, I.nodup, I.apart, I.off, I.cell, I.toks, I.tt, List.forall_mem_cons.mpr ⟨⟨hk, L, hf, hL, d⟩, I.frm⟩⟩
theorem Inv.pop (I : Inv K ⟨S0.st, env :: S0.fr⟩ Av g cells s) : Inv K S0 Av g cells s :=
  ⟨I.same, I.base, I.avs, I.ams, I.len, I.nodup, I.apart, I.off, I.cell, I.toks, I.tt, fun e he => I.frm e (.tail _ he)⟩

theorem bound_ok {f : FnI} {args : List TV} {vs ds : List Value} {l : List (Str × TV)} (I : Inv K S0 Av g cells s) (ra : RpL K.ad (g.wd Av cells s.heap) args vs) (hd : DefR K.ad f.defaults ds) (hl : bindPos f args = some l) :
    ∃ g1, Inv K S0 Av g1 (cells ++ kwC f) (bound2 f.kwarg (bound1 f.vararg f.params vs ds s).1 (bound1 f.vararg f.params vs ds s).2).2 ∧ Kp Av NoF g cells s g1 (cells ++ kwC f) (bound2 f.kwarg (bound1 f.vararg f.params vs ds s).1 (bound1 f.vararg f.params vs ds s).2).2 ∧
      BR K.ad (g1.wd Av (cells ++ kwC f) (bound2 f.kwarg (bound1 f.vararg f.params vs ds s).1 (bound1 f.vararg f.params vs ds s).2).2.heap) (l ++ varL f args ++ kwL f cells.length) (bound2 f.kwarg (bound1 f.vararg f.params vs ds s).1 (bound1 f.vararg f.params vs ds s).2).1 := by
  have h0 : BR K.ad (g.wd Av cells s.heap) l (laid f.params vs ds) := ifE hl fun _ e => e ▸ BR.zip ((ra.take _).append (by rw [hd.length, ra.length]; exact hd.drop _))
  have step1 : Inv K S0 Av g cells (bound1 f.vararg f.params vs ds s).2 ∧ Kp Av NoF g cells s g cells (bound1 f.vararg f.params vs ds s).2 ∧ BR K.ad (g.wd Av cells (bound1 f.vararg f.params vs ds s).2.heap) (l ++ varL f args) (bound1 f.vararg f.params vs ds s).1 := by
    unfold varL
    cases f.vararg with
    | none => exact ⟨I, .refl, (List.append_nil l).symm ▸ h0⟩
    | some a =>
      have J := I.grow (h' := s.heap.push (tupObj (vs.drop f.params.length) 0)) (tk := s.toks) (fun a o' e => Heap.get?_push_of_some _ e) (Nat.le_refl _)
      exact ⟨J.1, J.2, (h0.mono J.2.le).append (.cons ⟨rfl, .tup (I.newV (get_size _) (Heap.get?_push_size _ rfl)) (RpL.mono J.2.le (ra.drop _))⟩ .nil)⟩
  clear h0
  revert step1
  generalize bound1 f.vararg f.params vs ds s = b1
  intro H
  unfold kwC kwL
  cases f.kwarg with
  | none => exact ⟨g, (List.append_nil cells).symm ▸ H.1, (List.append_nil cells).symm ▸ H.2.1, (List.append_nil cells).symm ▸ (List.append_nil (l ++ varL f args)).symm ▸ H.2.2⟩
  | some a =>
    have J := H.1.newCell (h' := b1.2.heap.push { cls := .type "dict", data := .dict #[] }) (tk := b1.2.toks) (c := .dict [] false) (fun a o' e => Heap.get?_push_of_some _ e) (Nat.le_refl _) (get_size _) (Heap.get?_push_size _ rfl) fun le =>
      (Heap.dictOf_iff.mp (Heap.DictOf.new (knd := strKind K.prog K.w) b1.2.heap)).elim fun o z => ⟨[], _, Heap.get?_push_size _ rfl, Option.some.inj (z.1.symm.trans (Heap.get?_push_size _ rfl)) ▸ z.2, .nil⟩
    exact ⟨_, J.1, H.2.1.trans J.2, (H.2.2.mono J.2.le).append (.cons ⟨rfl, .ref (show (g.am ++ [b1.2.heap.objs.size])[cells.length]? = _ by rw [← H.1.len]; exact List.getElem?_concat_length ..)⟩ .nil)⟩
end
end

section
open PySem PySem.W PyProof.Rows

theorem zip_names {β : Type} (ps : List Str) : ∀ us : List β, ((ps.zip us).map (·.1)).Sublist ps := by
  induction ps with
  | nil => exact fun _ => .slnil
  | cons p ps ih =>
    intro us
    cases us with
    | nil => exact List.nil_sublist _
    | cons u us => exact (ih us).cons_cons p

theorem start_names {f : FnI} {l : List (Str × TV)} {args : List TV} {n : Nat} (h : (l.map (·.1)).Sublist f.params) : ((l ++ varL f args ++ kwL f n).map (·.1)).Sublist f.names := by
  rw [List.map_append, List.map_append]
  refine (h.append ?_).append ?_
  · unfold varL
    cases f.vararg <;> exact List.Sublist.refl _
  · unfold kwL
    cases f.kwarg <;> exact List.Sublist.refl _

section
variable {G : TG} {K : GK} {S0 : Reg} {Av Av' F : Addr → Prop} {env : Env} {sc : Scope} {g g₁ : Gh} {es es₁ : ES} {s s₁ : Shared} {cells : List Cell} {h' : Heap} {tk : Nat}

theorem Inv.nolim (hB : Base G K) (I : Inv K S0 Av g cells s) : s.heap.NoLimit := hB.nolim.keeps fun b o e => (I.base b o e).1

/-- a def's own places -/
noncomputable def FN (env : Env) (b : Addr) : Prop := b = env.locals ∨ ∃ y, env.cells.lookup y = some b

/-- a def's frame, laid out -/
theorem fn_env {f : FnI} {g1 : Gh} {cells1 : List Cell} {s1 : Shared} {L : List (Str × TV)} {binds : List (Str × Value)} {h2 : Heap} {tk2 : Nat} (hk : f.scope.kind = .function) (hfree : ∀ p ∈ f.scope.names, p.2 ≠ .free) (i1 : Inv K S0 Av g1 cells1 s1) (hb1 : BR K.ad (g1.wd Av cells1 s1.heap) L binds) (hbn : (binds.map (·.1)).Nodup)
    (eF : env.frame = some env.locals) (eS : env.scope = f.scope) (eG : env.globals = mainGlobals) (eB : env.builtins = builtinsNs) (eL : env.locals = s1.heap.objs.size) (hc : ∀ x, f.scope.names.lookup x = some .cell → ∃ c, env.cells.lookup x = some c)
    (X : InCallC s1 env.locals (bindL env.kindOf binds fun _ => none) env.cells (bindC env.kindOf binds fun _ => none) { s1 with heap := h2, toks := tk2 }) (htk : s1.toks ≤ tk2) :
    Now K ⟨S0.st, env :: S0.fr⟩ (fun b => Av b ∨ FN env b) (FN env) env f.scope g1 ⟨lookD L, cells1⟩ { s1 with heap := h2, toks := tk2 } ∧ (g1.wd Av cells1 s1.heap).Le (g1.wd (fun b => Av b ∨ FN env b) cells1 h2) ∧ ∀ b, FN env b → s1.heap.get? b = none := by
  have keepX : ∀ b o, s1.heap.get? b = some o → h2.get? b = some o := X.toInCall.keep
  have hns : h2.Ns env.locals (bindL env.kindOf binds fun _ => none) := X.toInCall.ns
  have ek : ∀ {x k}, f.scope.names.lookup x = some k → env.kindOf x = some k := fun {x k} e => by
    show env.scope.names.lookup x = _
    rw [eS, e]
  have hNf : ∀ b, FN env b → s1.heap.get? b = none := fun b z => z.elim (fun e => e ▸ eL ▸ get_size _) fun z => z.elim fun y hy => Heap.get?_none_of_le (Nat.le_of_lt (eL ▸ X.above y b (mem_of_lookup' hy)))
  have J := i1.reAv (Av' := fun b => Av b ∨ FN env b) (h' := h2) (tk := tk2) (fun b o hb e => ⟨keepX b o e, fun z => z.elim hb fun z => noneE ((hNf b z).symm.trans e)⟩)
    (fun b hb => hb.elim (fun hb => (i1.avs b hb).imp (keepX b)) fun z => z.elim (fun e => e ▸ hns.imp fun _ y => y.elim fun _ y => y.elim fun _ y => y.1) fun z => z.elim fun y hy => (X.cell y b hy).imp fun _ => And.left) (fun b hb d _ => ⟨.inl hb, d.keep (keepX b)⟩) htk
  exact ⟨⟨J.1.push (by rw [eS, hk]; exact nofun) eF (.inr (.inl rfl)) (.ns hns), eS ▸ hk, fun x k e => .inl (ek e), eG, eB, fun a h => .inr h, .inl rfl, ⟨_, hns, fun x tv hx ht => (hb1.look ht).imp fun v z => ⟨bindL_hit (ek hx) hbn z.1, z.2.mono J.2⟩⟩,
      fun x hx => (hc x hx).elim fun c hc => ⟨c, _, hc, X.cell x c hc, .inr ⟨x, hc⟩, fun z => Nat.lt_irrefl _ (z ▸ X.above x c (mem_of_lookup' hc)), fun tv ht => (hb1.look ht).imp fun v z => ⟨bindC_hit (fun e => NameKind.noConfusion (Option.some.inj (e.symm.trans (ek hx)))) hbn z.1, z.2.mono J.2⟩⟩,
      fun x hx => absurd rfl (hfree _ (mem_of_lookup' hx)), fun x y b hx hy e1 e2 => name_of_addr X.apart (mem_of_lookup' e1) (mem_of_lookup' e2)⟩, J.2, hNf⟩

/-- a call of a def of the text's -/
theorem fn_ok {r : Rec} {k : Nat} {hn : Bool} (hB : Base G K) (hr : ∀ S0, Snd K S0 k r) {A : Around} (hA : AOk S0 (k + 1) hn A) {a : Addr} {f : FnI} (hf : FnOk K.ad K.B a f) {args : List TV} {vs : List Value} {Q : TF → ES → Prop} {R : Result → Shared → Prop}
    (I : Inv K S0 Av g cells s) (ra : RpL K.ad (g.wd Av cells s.heap) args vs) (h : bindAll f args cells fun loc cells => r.s ⟨f.scope, hn⟩ f.body ⟨loc, cells⟩ Q) (hfl : ∀ es, ¬ Q .brk es ∧ ¬ Q .cont es)
    (pr : ∀ (v : Value) (s' : Shared) (tv : TV) (cells' : List Cell) (g' : Gh) (loc : Str → Option TV), Q (.ret tv) ⟨loc, cells'⟩ ∨ (tv = .none ∧ Q .next ⟨loc, cells'⟩) → Inv K S0 Av g' cells' s' → Kp Av NoF g cells s g' cells' s' → Rp K.ad (g'.wd Av cells' s'.heap) tv v → R (.ok (.ret v)) s')
    (px : ∀ (g1 : Gh) (cells1 : List Cell) (loc1 : Str → Option TV) (s1 : Shared) (base : Heap) (e C : Addr) (a0 : Value) (h' : Heap), Q .exc ⟨loc1, cells1⟩ → K.ad "CycleError" = some C → Heap.FlyingW base S0.fr e (.ref C) a0 h' → s1.heap.UpToSlots h' →
      (∀ h5, base.StaysIn h5 → s1.heap.UpToSlots h5 → Inv K S0 Av g1 cells1 { s1 with heap := h5 } ∧ Kp Av NoF g cells s g1 cells1 { s1 with heap := h5 }) → R (.error (.ref e)) { s1 with heap := h' }) :
    codeAny (model K.prog K.w) A (.call (.ref a) ⟨vs, []⟩) R s := by
  refine hf.ex.elim fun o z => z.elim fun fd z => z.elim fun ds q => h.elim fun l h => ?_
  have hl := ifE h.1 fun c e => (⟨c, e ▸ zip_names _ _⟩ : _ ∧ (l.map (·.1)).Sublist f.params)
  have hlen := ra.length
  have hpn : f.params.Nodup := hf.nodup.sublist ((List.sublist_append_left _ _).trans (List.sublist_append_left _ _))
  have hdl := q.dr.length
  refine codeAny_call_function (Nat.lt_of_lt_of_le (Nat.lt_of_le_of_lt (Nat.le_add_right _ _) hA.depth) (by decide)) (I.base _ _ q.at_).1 q.dat (q.sc ▸ hf.co) (q.sc ▸ hf.gen) q.body (q.code.imp fun _ => Exists.imp fun _ => Exists.imp fun _ => Exists.imp fun _ => And.imp_right (And.imp_left fun e => (I.base _ _ e).1))
    (bindArgs_ok (ds := ds) q.po q.ko q.ps hpn (q.dfl.imp_right fun z => z.imp fun T => Exists.imp fun _ => Exists.imp fun _ => And.imp_right (And.imp_left fun e => (I.base _ _ e).1)) (hdl ▸ hf.dlen) (hlen ▸ hdl ▸ hl.1.2.2) (hlen ▸ q.va ▸ hl.1.2.1) (size_le hlen hl.1.1) ?_)
  rw [q.va, q.kw, q.clo]
  refine (bound_ok (ds := ds) I ra q.dr h.1).elim fun g1 z => ?_
  have h : r.s ⟨f.scope, hn⟩ f.body ⟨lookD (l ++ varL f args ++ kwL f cells.length), cells ++ kwC f⟩ Q := h.2
  revert z h
  generalize bound2 f.kwarg (bound1 f.vararg f.params vs ds s).1 (bound1 f.vararg f.params vs ds s).2 = b
  generalize hL : l ++ varL f args ++ kwL f cells.length = L
  intro z h
  have hnames : (b.1.map (·.1)).Sublist f.names := by
    rw [z.2.2.names, ← hL]
    exact start_names hl.2
  have hcl : ∀ {x n}, f.scope.names.lookup x = some .cell → ∃ c, (cellsFrom n f.scope.names []).lookup x = some c := fun hx => (cellsFrom_mem f.scope.names _ (mem_of_lookup' hx)).elim fun c => lookup_some_of
  refine wpAny_with_toks (n := b.2.toks) (Nat.le_refl _) (wpAny_newFunctionEnv_cells (q.sc ▸ hf.kind) (fun x hx => q.sc ▸ (hf.names x.1 (hnames.subset (List.mem_map_of_mem hx))).imp_right fun hx' => ⟨hx', Option.isSome_iff_exists.mpr (hcl hx')⟩) fun env he s2 X htk => ⟨(z.1.nolim hB).keeps X.toInCall.keep, codeAny_func ?_⟩)
  have eS : env.scope = f.scope := he ▸ q.sc
  have N := fun h2 tk2 X htk => fn_env (env := env) (h2 := h2) (tk2 := tk2) hf.kind hf.nofree z.1 z.2.2 (hnames.nodup hf.nodup) (he ▸ rfl) eS (he ▸ q.gl) (he ▸ q.bl) (he ▸ rfl) (fun x hx => he ▸ (show ∃ c, (cellsFrom _ fd.scope.names []).lookup x = some c from q.sc ▸ hcl hx)) X htk
  have eF : env.frame = some env.locals := he ▸ rfl
  clear he
  refine X.toInCall.same.elim fun h2 y => y.elim fun tk2 y => ?_
  subst y
  have N := N h2 tk2 X htk
  have keepX : ∀ b' o, b.2.heap.get? b' = some o → h2.get? b' = some o := X.toInCall.keep
  clear X
  have hA' : AOk ⟨S0.st, env :: S0.fr⟩ k hn (A.deeper env) := ⟨by have := hA.depth; show A.depth + 1 + k < 700; omega, by have := hA.units; show A.units + 3 + 8 * k < 9000; omega, fun z => hA.hand z, Around.frames_deeper hA.frames⟩
  -- out of the frame
  have out : ∀ {g3 : Gh} {es3 : ES} {s3 : Shared}, Now K ⟨S0.st, env :: S0.fr⟩ (fun b => Av b ∨ FN env b) (FN env) env f.scope g3 es3 s3 → Kp (fun b => Av b ∨ FN env b) (FN env) g1 (cells ++ kwC f) { b.2 with heap := h2, toks := tk2 } g3 es3.cells s3 →
      (Inv K S0 Av g3 es3.cells s3 ∧ Kp Av NoF g cells s g3 es3.cells s3) ∧ (g3.wd (fun b => Av b ∨ FN env b) es3.cells s3.heap).Le (g3.wd Av es3.cells s3.heap) := fun {g3 es3 s3} n3 k3 =>
    have J := n3.inv.pop.reAv (Av' := Av) (h' := s3.heap) (tk := s3.toks) (fun b o hb e => ⟨e, fun z => hb (.inl z)⟩) (fun b hb => n3.inv.avs b (.inl hb)) (fun b _ d hfr => ⟨I.frameAv hfr, d⟩) (Nat.le_refl _)
    ⟨⟨J.1, z.2.1.le.trans (N.2.1.trans (k3.le.trans J.2)), fun b o hb _ e => (z.2.1.av b o hb id e).elim fun o1 y => (k3.av b o1 (.inl hb) (fun w => noneE ((N.2.2 b w).symm.trans y.1)) (keepX b o1 y.1)).imp fun o3 => And.imp_right y.2.trans,
      Nat.le_trans z.2.1.tk (Nat.le_trans htk k3.tk), fun b o e => (z.2.1.old b o e).elim fun o1 e1 => k3.old b o1 (keepX b o1 e1)⟩, J.2⟩
  refine (hr ⟨S0.st, env :: S0.fr⟩).s ⟨f.scope, hn⟩ f.body ⟨lookD L, cells ++ kwC f⟩ Q h (A.deeper env) env _ _ g1 _ _ _ hA' rfl N.1 (fun fl s3 tf es3 g3 hq n3 k3 rf => ?_) fun h' e s3 es3 g3 C ws hq n3 k3 hC hm => ?_
  · have O := out n3 k3
    cases tf with
    | next =>
      have e : fl = _ := rf
      subst e
      exact pr .none s3 .none es3.cells g3 es3.loc (.inr ⟨rfl, hq⟩) O.1.1 O.1.2 .none
    | brk => exact absurd hq (hfl _).1
    | cont => exact absurd hq (hfl _).2
    | ret => exact rf.elim fun u y => y.1 ▸ pr _ s3 _ es3.cells g3 es3.loc (.inl hq) O.1.1 O.1.2 (y.2.mono O.2)
    | exc => exact rf.elim
  · exact wpAny_leaves_madeW (base := strip (env :: S0.fr) s3.heap) (h := s3.heap) (s := { s3 with heap := h' }) (Around.frames_deeper hA.frames) eF strip_stays n3.inv.funFrames hm fun h5 t hfly htup hnew hup =>
      px g3 es3.cells es3.loc s3 _ e C (.ref t) h5 hq hC hfly ((Heap.UpToSlots.of_keeps hm.keeps).trans hup) fun h6 hs hu =>
        have M := n3.after (h' := h6) (tk := s3.toks) hs hu (Nat.le_refl _)
        (out M.1 (k3.trans M.2)).1
end
end

section
open PySem PySem.W PyProof.Rows

section
variable {G : TG} {K : GK} {S0 : Reg} {Av Av' F : Addr → Prop} {env : Env} {sc : Scope} {g g₁ : Gh} {es es₁ : ES} {s s₁ : Shared} {cells : List Cell} {h' : Heap} {tk : Nat}

theorem raise_ok {r : Rec} {k : Nat} {cx : Cx} (hB : Base G K) (hr : Snd K S0 k r) {A : Around} (hA : AOk S0 k cx.hn A) {E : Value → Shared → Prop} {np cp pos : Pos} {a : Expr} {args : List Expr} {Q : TF → ES → Prop} {P : Flow → Shared → Prop}
    (hname : nameTV G cx.sc es.loc "CycleError" = some (.fn "CycleError")) (hk : G.kind "CycleError" = some .exc) (hst : ∀ env, (backTo cp (starEach (a :: args) env)).any (·.1) = false) (hlo : loneOk (a :: args) = true) (hn : cx.hn = true) (h : evL r cx (a :: args) es fun vs es => vs.length ≤ lim ∧ Q .exc es)
    (n : Now K S0 Av F env cx.sc g es s) (px : PostX K S0 Av F env cx.sc g es s Q E) : wpAny (model K.prog K.w) A (exec (.Raise (some (.Call (.Name "CycleError" np) (a :: args) [] cp)) none pos) env) P E s :=
  (name_same (pos := np) hB n hname).elim fun v z => z.1.elim fun C y => (hB.exc C y.2 hk).elim fun newId w => w.elim fun initId w => w.elim fun bm w => w.elim fun mg w =>
    w.2.own.obj.elim fun _ o => o.elim fun _ o => o.elim fun _ o => o.elim fun _ o => o.elim fun _ o => o.elim fun _ o => o.elim fun _ o => o.elim fun _ o => o.elim fun _ o => o.elim fun _ o => o.elim fun _ o => o.elim fun _ o => o.elim fun _ o => o.elim fun _ o => o.elim fun _ o => o.elim fun _ o => o.elim fun _ o =>
      wpAny_Raise_call_subT w.1 (o.2.2.2.hasType w.1.hasBase) (hA.hand hn) (hst env) o.2.2.1 (z.2 _ _ _ ⟨y.1, args_ok hr.e hA hlo h n fun vs s2 tvs es2 g2 q2 n2 k2 r2 =>
        have kB : ∀ b o, K.B.get? b = some o → s2.heap.get? b = some o := fun b o e => (n2.inv.base b o e).1
        ⟨rfl, size_le r2.length q2.1, kB _ _ o.1, o.2.1.keeps kB, o.2.2.2.keeps kB, fun h' e hm => px h' e s2 es2 g2 C vs q2.2 n2 k2 y.2 hm⟩⟩)

/-- an exception of the text's own, caught -/
theorem cyc_catch {r : Rec} {k : Nat} {cx : Cx} (hB : Base G K) (hr : Snd K S0 k r) {A : Around} (hA : AOk S0 k cx.hn A) {E : Value → Shared → Prop} {ep hp : Pos} {b₀ : Stmt} {hb : List Stmt} {Q : TF → ES → Prop} {P : Flow → Shared → Prop} {e C : Addr} {g1 : Gh} {cells1 : List Cell} {s1 : Shared} {base : Heap} {a0 : Value}
    (htop : S0.fr.head? = some env) (n : Now K S0 Av F env cx.sc g es s) (p : PostS K S0 Av F env cx.sc g es s Q P) (hC : K.ad "CycleError" = some C) (hfly : Heap.FlyingW base S0.fr e (.ref C) a0 h') (hup : s1.heap.UpToSlots h')
    (hI : ∀ h5, base.StaysIn h5 → s1.heap.UpToSlots h5 → Inv K S0 Av g1 cells1 { s1 with heap := h5 } ∧ Kp Av NoF g es.cells s g1 cells1 { s1 with heap := h5 })
    (hname : nameTV G cx.sc es.loc "CycleError" = some (.fn "CycleError")) (hk : G.kind "CycleError" = some .exc) (hs : r.s { cx with hn := false } (b₀ :: hb) { es with cells := cells1 } (elseK Q)) :
    wpAny (model K.prog K.w) A (noteFrame (.ref e) env) (fun _ s₁ => wpAny (model K.prog K.w) A (setFlight (.ref e) none) (fun _ s₂ => wpAny (model K.prog K.w) A (handleBy (.ref e) env [.ExceptHandler (some (.Name "CycleError" ep)) none (b₀ :: hb) hp]) P E s₂) E s₁) E { s1 with heap := h' } := by
  refine (hB.exc C hC hk).elim fun newId w => w.elim fun initId w => w.elim fun bm w => w.elim fun mg w => (top_frame n.inv htop).elim fun outer z => z.elim fun L z => ?_
  rw [z.1] at hfly
  refine wpAny_looks_onW (s := { s1 with heap := h' }) (hA.frames.trans (congrArg some z.1)) z.2 hfly fun h3 hheld hu3 => wpAny_landsW (s := { s1 with heap := h3 }) hheld fun h4 hfl4 hu4 => ?_
  have u4 : s1.heap.UpToSlots h4 := hup.trans (hu3.trans hu4)
  have J := hI h4 hfl4.1 u4
  have n4 : Now K S0 Av F env cx.sc g1 { es with cells := cells1 } { s1 with heap := h4 } := ⟨J.1, n.env.kp J.2⟩
  refine (name_same (pos := ep) hB n4 hname).elim fun vc q => q.1.elim fun C' y => ?_
  have e := Option.some.inj (y.2.symm.trans hC)
  subst e
  exact handleBy_own (x := "CycleError") (bmB := bm) (newId := newId) (mg := mg) w.1.hasBase (q.2 _ _ _ ⟨y.1, w.2.keeps fun b o e => (J.1.base b o e).1, hfl4.there, lands_againW (s := { s1 with heap := h4 }) hfl4 fun h5 hfl5 hu5 =>
    have J5 := hI h5 hfl5.1 (u4.trans hu5)
    hr.s { cx with hn := false } (b₀ :: hb) _ _ hs (A.mark (some (.ref e))) env Av F g1 _ _ _ (hA.marked _) htop ⟨J5.1, n.env.kp J5.2⟩ (fun fl s6 tf es6 g6 h6 n6 k6 rf => p fl s6 tf es6 g6 h6.2 n6 ((J5.2.weak fun _ h => h.elim).trans k6) rf) fun _ _ _ _ _ _ _ q => False.elim q.1⟩)

theorem tryCyc_ok {r : Rec} {k : Nat} {cx : Cx} (hB : Base G K) (hr : ∀ S0, Snd K S0 k r) {A : Around} (hA : AOk S0 (k + 1) cx.hn A) {E : Value → Shared → Prop} {o m : Str} {op apos cpos epos ep hp pos : Pos} {b₀ : Stmt} {hb : List Stmt} {Q : TF → ES → Prop} {P : Flow → Shared → Prop}
    (htop : S0.fr.head? = some env) (hline : apos.endLine = cpos.line) (h : tryCyc G r cx o m (b₀ :: hb) es Q) (n : Now K S0 Av F env cx.sc g es s) (p : PostS K S0 Av F env cx.sc g es s Q P) :
    wpAny (model K.prog K.w) A (exec (.Try [.Expr (.Call (.Attribute (.Name o op) m apos) [] [] cpos) epos] [.ExceptHandler (some (.Name "CycleError" ep)) none (b₀ :: hb) hp] [] [] pos) env) P E s := by
  refine h.2.elim fun ov h => h.2.elim fun fv h' => h'.2.elim fun name y => y.elim fun f y => (name_same (pos := op) hB n h.1).elim fun vo q => ?_
  refine wpAny_Try_except (wpAny_execs_cons (wpAny_Expr_any ?_ (not_interactive n.env) rfl))
  rw [arm_eval_Call, show ∀ whole, attributeBase (.Name o op) m env whole = whole from fun _ => rfl]
  refine wpAny_bind (q.2 _ _ _ (wpAny_bind (wpAny_standAt ?_)))
  unfold methodCall
  rw [show methodCallForm (([] : List Expr).length + ([] : List Keyword).length) (backTo cpos (starEach [] env)) (backToKw cpos (keywordEach [] env)) = true from rfl]
  refine wpAny_bind (wpAny_holding ?_)
  show wpAny _ A (getMethod vo m _) _ _ s
  refine getMethod_ok hB n.inv q.1 h'.1 fun fa hfa => wpAny_bind (wpAny_of_eq (a := cpos) (by unfold methodCallPos; simp [hline]) ?_)
  refine (show Rp _ _ (.fn name) fa from y.1 ▸ hfa).fnE fun a had => callWith_any (evalArgs_nil3 ⟨keeps_K (hB.keep _ _ _ had y.2.1) _ (n.inv.frag hB), ?_⟩)
  exact wpAny_call (fn_ok hB hr hA (hB.fn _ _ _ had y.2.1) n.inv (.one q.1) y.2.2 (fun es => ⟨id, id⟩) (fun v s' tv cells' g' loc q i k' r' => wpAny_execs_nil (wpAny_execs_nil (p .next s' .next { es with cells := cells' } g' (q.elim id And.right) ⟨i, n.env.kp k'⟩ (k'.weak fun _ h => h.elim) rfl)))
    fun g1 cells1 loc1 s1 base e C a0 h' q hC hfly hup hI => cyc_catch hB (hr S0) hA.dec htop n p hC hfly hup hI q.1 q.2.1 q.2.2)
end
end

section
open PySem PySem.W PyProof.Rows

section
variable {G : TG} {K : GK} {S0 : Reg} {Av Av' F : Addr → Prop} {env : Env} {sc : Scope} {g g₁ : Gh} {es es₁ : ES} {s s₁ : Shared} {cells : List Cell} {h' : Heap} {tk : Nat}

theorem stepS_ok {r : Rec} {k : Nat} {cx : Cx} (hB : Base G K) (hr : ∀ S0, Snd K S0 k r) {A : Around} (hA : AOk S0 (k + 1) cx.hn A) {E : Value → Shared → Prop} {st : Stmt} {Q : TF → ES → Prop} {P : Flow → Shared → Prop}
    (h : StepS G r cx st es Q) (htop : S0.fr.head? = some env) (n : Now K S0 Av F env cx.sc g es s) (p : PostS K S0 Av F env cx.sc g es s Q P) (px : PostX K S0 Av F env cx.sc g es s Q E) : wpAny (model K.prog K.w) A (exec st env) P E s := by
  have hr0 := hr S0
  have hA0 := hA.dec
  induction h with
  | expr hc h => exact wpAny_Expr_any (hr0.e cx _ es _ h A env Av F g s _ _ hA0 n fun v s1 tv es1 g1 h1 n1 k1 r1 => p .next s1 .next es1 g1 h1 n1 k1 rfl) (not_interactive n.env) (hc _ _ _)
  | pass h => exact wpAny_Pass (p .next s .next es g h n .refl rfl)
  | brk h => exact wpAny_Break (p .brk s .brk es g h n .refl rfl)
  | cont h => exact wpAny_Continue (p .cont s .cont es g h n .refl rfl)
  | ret0 h => exact wpAny_Return_none (p (.ret .none) s (.ret .none) es g h n .refl ⟨_, rfl, .none⟩)
  | ret h => exact return_ok hr0 hA0 h n p
  | disp hn ha hb hw h => exact disp2_ok hr0 hA0 hn ha hb hw h n p
  | asg hd h => exact assign_ok hB hr0 hA0 hd h n p
  | asg2 hd ht h => exact two_ok hB hr0 hA0 hd ht h n p
  | augA h => exact aug_ok (f := (· + ·)) hB hr0 hA0 (fun h => wpAny_iadd_int h) h n p
  | augS h => exact aug_ok (f := (· - ·)) hB hr0 hA0 (fun h => PyProof.Rows.isub_int h) h n p
  | if_ h =>
    refine wpAny_If (hr0.t cx _ es _ h A env Av F g s _ _ hA0 n fun b s1 es1 g1 h1 n1 k1 => ?_)
    cases b
    · exact hr0.s cx _ es1 _ h1 A env Av F g1 s1 _ _ hA0 htop n1 (p.on k1) (px.on k1)
    · exact hr0.s cx _ es1 _ h1 A env Av F g1 s1 _ _ hA0 htop n1 (p.on k1) (px.on k1)
  | for_ hn hs h => exact for_ok hB hr0 hA0 htop hn hs h n p
  | while_ h => exact while_ok hr0 hA0 htop h n p
  | assert h => exact wpAny_Assert_holds (hr0.t cx _ es _ h A env Av F g s _ _ hA0 n fun b s1 es1 g1 h1 n1 k1 => ⟨h1.1, p .next s1 .next es1 g1 h1.2 n1 k1 rfl⟩)
  | del h => exact del_ok hr0 hA0 h n p
  | next h => exact nextTry_ok hB hr0 hA0 htop h n p
  | cyc hl h => exact tryCyc_ok hB hr hA htop hl h n p
  | raise hnm hk hst hlo hn h => exact raise_ok hB hr0 hA0 hnm hk hst hlo hn h n px

theorem evSs_ok {r : Rec} {k : Nat} (hB : Base G K) (hr : ∀ S0, Snd K S0 k r) : SndS K S0 (k + 1) (evSs G r) := by
  intro cx b
  induction b with
  | nil => exact fun es Q h A env Av F g s E P hA htop n p px => wpAny_execs_nil (p .next s .next es g h n .refl rfl)
  | cons st rest ih =>
    intro es Q h A env Av F g s E P hA htop n p px
    refine wpAny_execs_cons (stepS_ok hB hr hA h htop n (fun fl s1 tf es1 g1 h1 n1 k1 rf => ?_) fun h' e s' es' g' C vs q n' k' hC hm => px h' e s' es' g' C vs q n' k' hC hm)
    cases tf with
    | next =>
      have e : fl = _ := rf
      subst e
      exact ih es1 Q h1 A env Av F g1 s1 E P hA htop n1 (p.on k1) (px.on k1)
    | brk =>
      have e : fl = _ := rf
      subst e
      exact p .brk s1 .brk es1 g1 h1 n1 k1 rfl
    | cont =>
      have e : fl = _ := rf
      subst e
      exact p .cont s1 .cont es1 g1 h1 n1 k1 rfl
    | ret => exact rf.elim fun u y => y.1 ▸ p _ s1 _ es1 g1 h1 n1 k1 ⟨u, rfl, y.2⟩
    | exc => exact rf.elim
end
end

section
open PySem PySem.W PyProof.Rows

section
variable {G : TG} {K : GK} {S0 : Reg} {Av Av' F : Addr → Prop} {env : Env} {sc : Scope} {g g₁ : Gh} {es es₁ : ES} {s s₁ : Shared} {cells : List Cell} {h' : Heap} {tk : Nat}

theorem AOk.under {k : Nat} {hn : Bool} {A : Around} (h : AOk S0 (k + 1) hn A) (C : Addr) (vals : List Value) (kw : List (Str × Value)) : AOk S0 k hn (A.under (.builtin "type.__call__" ⟨.ref C :: vals, kw⟩)) := by
  refine ⟨?_, ?_, h.hand, h.frames⟩
  · have := h.depth
    show A.depth + 1 + k < 700
    omega
  · have := h.units
    have e : Code.cUnits (.builtin "type.__call__" ⟨.ref C :: vals, kw⟩) ≤ 8 := by
      simp [Code.cUnits]
      show 1 + 3 * 0 ≤ 8
      omega
    show A.units + Code.cUnits _ + 8 * k < 9000
    omega

/-- a new instance, its table laid out -/
theorem Inv.inst (I : Inv K S0 Av g cells s) {name : Str} {C : Addr} (had : K.ad name = some C) : ∃ g', Inv K S0 Av g' (cells ++ [.ns [], .obj name cells.length]) { s with heap := (s.heap.push emptyDict).push (instObj C s.heap.objs.size) } ∧
    Kp Av NoF g cells s g' (cells ++ [.ns [], .obj name cells.length]) { s with heap := (s.heap.push emptyDict).push (instObj C s.heap.objs.size) } ∧
    Rp K.ad (g'.wd Av (cells ++ [.ns [], .obj name cells.length]) ((s.heap.push emptyDict).push (instObj C s.heap.objs.size))) (.ref (cells.length + 1)) (.ref (s.heap.objs.size + 1)) := by
  have J := I.newCell (h' := s.heap.push emptyDict) (tk := s.toks) (c := .ns []) (fun a o e => Heap.get?_push_of_some _ e) (Nat.le_refl _) (get_size _) (Heap.get?_push_size _ rfl) fun le => ⟨[], 0, Heap.get?_push_size _ rfl, .nil⟩
  have sz : (s.heap.push emptyDict).objs.size = s.heap.objs.size + 1 := Heap.size_push ..
  have hl : (g.am ++ [s.heap.objs.size])[cells.length]? = some s.heap.objs.size := I.len ▸ List.getElem?_concat_length ..
  have M := J.1.newCell (h' := (s.heap.push emptyDict).push (instObj C s.heap.objs.size)) (tk := s.toks) (c := .obj name cells.length) (fun a o e => Heap.get?_push_of_some _ e) (Nat.le_refl _) (get_size _) (Heap.get?_push_size _ rfl) fun le => ⟨C, _, Heap.get?_push_size _ rfl, had, le.am hl⟩
  have e : cells ++ [Cell.ns []] ++ [Cell.obj name cells.length] = cells ++ [.ns [], .obj name cells.length] := List.append_assoc ..
  rw [e] at M
  refine ⟨_, M.1, J.2.trans M.2, .ref ?_⟩
  show ((g.am ++ [s.heap.objs.size]) ++ [(s.heap.push emptyDict).objs.size])[cells.length + 1]? = some (s.heap.objs.size + 1)
  rw [sz, ← I.len, List.append_assoc, List.getElem?_append_right (Nat.le_succ _), Nat.succ_sub (Nat.le_refl _), Nat.sub_self]
  rfl

/-- a new instance with slots -/
theorem Inv.inst' (I : Inv K S0 Av g cells s) {name : Str} {C : Addr} (had : K.ad name = some C) (names : List Str) : ∃ g', Inv K S0 Av g' (cells ++ [.slots name (names.map fun _ => none)]) { s with heap := (s.heap.push emptyDict).push (instObj C s.heap.objs.size) } ∧
    Kp Av NoF g cells s g' (cells ++ [.slots name (names.map fun _ => none)]) { s with heap := (s.heap.push emptyDict).push (instObj C s.heap.objs.size) } ∧
    Rp K.ad (g'.wd Av (cells ++ [.slots name (names.map fun _ => none)]) ((s.heap.push emptyDict).push (instObj C s.heap.objs.size))) (.ref cells.length) (.ref (s.heap.objs.size + 1)) := by
  have J := I.grow (h' := s.heap.push emptyDict) (tk := s.toks) (fun a o e => Heap.get?_push_of_some _ e) (Nat.le_refl _)
  have sz : (s.heap.push emptyDict).objs.size = s.heap.objs.size + 1 := Heap.size_push ..
  have hV := I.newV (h' := s.heap.push emptyDict) (get_size _) (Heap.get?_push_size _ rfl)
  have M := J.1.newCell (h' := (s.heap.push emptyDict).push (instObj C s.heap.objs.size)) (tk := s.toks) (c := .slots name (names.map fun _ => none)) (fun a o e => Heap.get?_push_of_some _ e) (Nat.le_refl _) (get_size _) (Heap.get?_push_size _ rfl) fun le => ⟨C, _, [], Heap.get?_push_size _ rfl, had, le.v _ _ hV, fun i tv e => by
    rw [List.getElem?_map] at e
    revert e
    cases names[i]? <;> exact fun e => noneE e⟩
  exact ⟨_, M.1, J.2.trans M.2, .ref (show (g.am ++ [(s.heap.push emptyDict).objs.size])[cells.length]? = some (s.heap.objs.size + 1) by rw [sz, ← I.len]; exact List.getElem?_concat_length ..)⟩

/-- an instance, made -/
theorem make_ok {r : Rec} {k : Nat} {hn : Bool} {A : Around} {init : Str} {a : Addr} {args : List TV} {vs : List Value} {Q : TV → List Cell → Prop} {E : Value → Shared → Prop} {P : Value → Shared → Prop} {g1 : Gh} {cells1 : List Cell} {m : Nat} (hB : Base G K) (hr : Snd K S0 k r) (hA : AOk S0 (k + 1) hn A)
    (C : ClsOk K a init) (I : Inv K S0 Av g cells s) (ra : RpL K.ad (g.wd Av cells s.heap) args vs) (p : PostC K S0 Av g cells s Q P)
    (i1 : Inv K S0 Av g1 cells1 { s with heap := (s.heap.push emptyDict).push (instObj a s.heap.objs.size) }) (k1 : Kp Av NoF g cells s g1 cells1 { s with heap := (s.heap.push emptyDict).push (instObj a s.heap.objs.size) })
    (r1 : Rp K.ad (g1.wd Av cells1 ((s.heap.push emptyDict).push (instObj a s.heap.objs.size))) (.ref m) (.ref (s.heap.objs.size + 1)))
    (h : r.c hn (.fn init) (.ref m :: args) cells1 fun v cells' => v = .none ∧ Q (.ref m) cells') : codeAny (model K.prog K.w) A (.call (.ref a) ⟨vs, []⟩) (wants P E) s := by
  have X := I.frag hB
  refine C.init.elim fun f z => ?_
  revert X i1 k1 r1 ra p I
  cases s with
  | mk hh gg d t os =>
    intro I ra p i1 k1 r1 X
    refine make_core (makes_of X C.makes) (looks_findIn X z.2.1) (fun self => bind_fn X self z.2.2) (.inl rfl) (codeAny_mono (hr.c hn (.fn init) _ _ _ h (A.under (.builtin "type.__call__" ⟨.ref a :: vs, []⟩)) Av g1 _ E (fun v s' => v = .none ∧ P (.ref (hh.objs.size + 1)) s') (.ref f) (.ref (hh.objs.size + 1) :: vs) (hA.under _ _ _) i1 (.fn z.1) (.cons r1 (RpL.mono k1.le ra))
      fun v s' tv cells' g' q i k' r' => ⟨(show Rp _ _ .none v from q.1 ▸ r').noneE rfl, p _ s' _ cells' g' q.2 i (k1.trans k') (r1.mono k'.le)⟩) fun r s' hr' => ?_)
    cases r with
    | error e => exact hr'
    | ok fl => cases fl <;> first | exact hr' | exact hr'.elim

theorem stepC_ok {r : Rec} {k : Nat} (hB : Base G K) (hr : ∀ S0, Snd K S0 k r) : SndC K S0 (k + 1) (stepR G r).c := by
  intro hn f args cells Q h A Av g s E P fv vs hA I rf ra p
  induction h with
  | fn hk h => exact rf.fnE fun a had => fn_ok hB hr hA (hB.fn _ _ _ had hk) I ra h (fun es => ⟨id, id⟩) (fun v s' tv cells' g' loc q i k' r' => q.elim (fun q => p v s' tv cells' g' q i k' r') fun q => p v s' tv cells' g' (q.1 ▸ q.2) i k' r') fun _ _ _ _ _ _ _ _ _ q => q.elim
  | cls hk h => exact rf.fnE fun a had => (I.inst had).elim fun g1 z => make_ok hB (hr S0) hA (hB.cls _ _ _ had hk) I ra p z.1 z.2.1 z.2.2 h
  | slotted hk h => exact rf.fnE fun a had => (I.inst' had _).elim fun g1 z => make_ok hB (hr S0) hA (hB.slotted _ _ _ _ had hk) I ra p z.1 z.2.1 z.2.2 h

/-- the small semantics is sound -/
theorem ev_ok (hB : Base G K) (n : Nat) : ∀ S0 : Reg, Snd K S0 n (ev G n) := by
  induction n with
  | zero => exact fun _ => ⟨fun _ _ _ _ h => h.elim, fun _ _ _ _ h => h.elim, fun _ _ _ _ h => h.elim, fun _ _ _ _ _ h => h.elim⟩
  | succ n ih =>
    exact fun S0 => ⟨fun cx e es Q h A env Av F g s E P hA => stepE_ok hB (ih S0) (compE_ok hB (ih S0)) cx e es Q h A env Av F g s E P hA.dec, fun cx e es Q h A env Av F g s E P hA => stepT_ok hB (ih S0) (compE_ok hB (ih S0)) cx e es Q h A env Av F g s E P hA.dec, evSs_ok hB ih, stepC_ok hB ih⟩
end
end

section
open PySem PySem.W PyProof.Rows

noncomputable def prog : Program := PySem.Challenge.pw_il0112_02
noncomputable def at1 (i : Nat) : Option Stmt := prog.main.body[i]?
noncomputable def at2 (i j : Nat) : Option Stmt := match prog.main.body[i]? with
  | some (.ClassDef _ _ _ b _ _ _ _ _ _ _) => b[j]?
  | _ => none
noncomputable def dfl : Expr → Option Const
  | .Constant c _ _ => some c
  | _ => none
noncomputable def fnOf : Option Stmt → FnI
  | some (.FunctionDef _ a b _ _ _ sc _ _ _) => ⟨a.args.map (·.arg), a.vararg.map (·.arg), a.kwarg.map (·.arg), a.defaults.filterMap dfl, b, sc⟩
  | _ => ⟨[], none, none, [], [], ⟨.function, [], false, false, []⟩⟩

noncomputable def f_kind : FnI := fnOf (at1 4)
noncomputable def f_cpath : FnI := fnOf (at1 5)
noncomputable def f_shelf : FnI := fnOf (at1 6)
noncomputable def f_split : FnI := fnOf (at1 7)
noncomputable def f_norm : FnI := fnOf (at1 8)
noncomputable def f_normpath : FnI := fnOf (at1 9)
noncomputable def f_igInit : FnI := fnOf (at2 11 0)
noncomputable def f_igNames : FnI := fnOf (at2 11 1)
noncomputable def f_escape : FnI := fnOf (at1 15)
noncomputable def f_translate : FnI := fnOf (at1 17)
noncomputable def f_niInit : FnI := fnOf (at2 21 1)
noncomputable def f_tsInit : FnI := fnOf (at2 23 0)
noncomputable def f_tsGet : FnI := fnOf (at2 23 1)
noncomputable def f_tsAdd : FnI := fnOf (at2 23 2)
noncomputable def f_tsPrep : FnI := fnOf (at2 23 3)
noncomputable def f_tsReady : FnI := fnOf (at2 23 4)
noncomputable def f_tsActive : FnI := fnOf (at2 23 5)
noncomputable def f_tsDone : FnI := fnOf (at2 23 7)
noncomputable def f_tsCyc : FnI := fnOf (at2 23 8)
noncomputable def f_rows : FnI := fnOf (at1 25)
noncomputable def f_files : FnI := fnOf (at1 26)
noncomputable def f_takes : FnI := fnOf (at1 27)
noncomputable def f_path : FnI := fnOf (at1 28)
noncomputable def f_told : FnI := fnOf (at1 29)
noncomputable def f_due : FnI := fnOf (at1 30)
noncomputable def f_law : FnI := fnOf (at1 31)

noncomputable def kinds : List (Str × Kind) := [("_kind", .fn f_kind), ("_c_path", .fn f_cpath), ("_shelf_fresh", .fn f_shelf), ("_splitroot", .fn f_split), ("_normpath", .fn f_norm), ("normpath", .fn f_normpath),
  ("_Ignore", .cls (some "_Ignore.__init__")), ("_Ignore.__init__", .fn f_igInit), ("_Ignore.names", .fn f_igNames), ("escape", .fn f_escape), ("_translate", .fn f_translate),
  ("_NodeInfo", .slotted "_NodeInfo.__init__" ["node", "npredecessors", "successors"]), ("_NodeInfo.__init__", .fn f_niInit),
  ("TopologicalSorter", .cls (some "TS.__init__")), ("TS.__init__", .fn f_tsInit), ("TS._get_nodeinfo", .fn f_tsGet), ("TS.add", .fn f_tsAdd), ("TS.prepare", .fn f_tsPrep), ("TS.get_ready", .fn f_tsReady), ("TS.is_active", .fn f_tsActive),
  ("TS.done", .fn f_tsDone), ("TS._find_cycle", .fn f_tsCyc), ("_law_rows", .fn f_rows), ("_law_files", .fn f_files), ("_law_takes", .fn f_takes), ("_law_path", .fn f_path), ("_law_told", .fn f_told), ("_law_due", .fn f_due)]
noncomputable def globsA : List (Str × TV) := [("sep", .su "/"), ("_NODE_OUT", .int (-1)), ("_NODE_DONE", .int (-2)), ("_kind", .fn "_kind"), ("_c_path", .fn "_c_path"), ("_shelf_fresh", .fn "_shelf_fresh"), ("_splitroot", .fn "_splitroot"), ("_normpath", .fn "_normpath"),
  ("normpath", .fn "normpath"), ("_Ignore", .fn "_Ignore"), ("_special_chars_map", .fn "_special_chars_map"), ("escape", .fn "escape"), ("_translate", .fn "_translate"), ("_NodeInfo", .fn "_NodeInfo"), ("TopologicalSorter", .fn "TopologicalSorter"),
  ("_law_rows", .fn "_law_rows"), ("_law_files", .fn "_law_files"), ("_law_takes", .fn "_law_takes"), ("_law_path", .fn "_law_path"), ("_law_told", .fn "_law_told"), ("_law_due", .fn "_law_due")]
noncomputable def globsB : List (Str × TV) := [("len", .g (.builtin "len")), ("isinstance", .g (.builtin "isinstance")), ("iter", .g (.builtin "iter")), ("sorted", .g (.builtin "sorted")), ("max", .g (.builtin "max")),
  ("str", .g (.type "str")), ("list", .g (.type "list")), ("range", .g (.type "range")), ("type", .g (.type "type")), ("set", .g (.type "set")), ("tuple", .g (.type "tuple")), ("bool", .g (.type "bool")), ("StopIteration", .g (.type "StopIteration"))]
noncomputable def globs : List (Str × TV) := globsA ++ globsB
noncomputable def meths : List ((Str × Str) × Str) := [(("_Ignore", "names"), "_Ignore.names"), (("TopologicalSorter", "_get_nodeinfo"), "TS._get_nodeinfo"), (("TopologicalSorter", "add"), "TS.add"), (("TopologicalSorter", "prepare"), "TS.prepare"),
  (("TopologicalSorter", "get_ready"), "TS.get_ready"), (("TopologicalSorter", "is_active"), "TS.is_active"), (("TopologicalSorter", "done"), "TS.done"), (("TopologicalSorter", "_find_cycle"), "TS._find_cycle")]
noncomputable def attrs : List (Str × Str) := [("_Ignore", "_mods"), ("_Ignore", "_dirs"), ("_Ignore", "_ignore"), ("TopologicalSorter", "_node2info"), ("TopologicalSorter", "_ready_nodes"), ("TopologicalSorter", "_npassedout"), ("TopologicalSorter", "_nfinished")]
noncomputable def slotsOf : List ((Str × Str) × Nat) := [(("_NodeInfo", "node"), 0), (("_NodeInfo", "npredecessors"), 1), (("_NodeInfo", "successors"), 2)]
/-- what is laid out as a list that is changed later (the walk stops there) -/
noncomputable def thawsP : Expr → Expr → Bool
  | .Name x _, .List .. => (["res", "new_comps", "rows", "files", "rounds", "told", "stack", "itstack"] : List Str).contains x
  | .Name x _, .ListComp .. => (["res", "new_comps", "rows", "files", "rounds", "told", "stack", "itstack"] : List Str).contains x
  | .Attribute _ a _, .List .. => (["_ready_nodes", "successors"] : List Str).contains a
  | .Attribute _ a _, .ListComp .. => (["_ready_nodes", "successors"] : List Str).contains a
  | _, _ => false
noncomputable def G2 : TG := { kind := fun x => List.lookup x kinds, glob := fun x => List.lookup x globs, meth := fun c m => List.lookup (c, m) meths, slotOf := fun c a => List.lookup (c, a) slotsOf, attrOk := fun c a => attrs.contains (c, a) }

theorem gl_sep : G2.glob "sep" = some (.su "/") := by kernel_rfl
theorem gl__NODE_OUT : G2.glob "_NODE_OUT" = some (.int (-1)) := by kernel_rfl
theorem gl__NODE_DONE : G2.glob "_NODE_DONE" = some (.int (-2)) := by kernel_rfl
theorem gl__kind : G2.glob "_kind" = some (.fn "_kind") := by kernel_rfl
theorem gl__c_path : G2.glob "_c_path" = some (.fn "_c_path") := by kernel_rfl
theorem gl__shelf_fresh : G2.glob "_shelf_fresh" = some (.fn "_shelf_fresh") := by kernel_rfl
theorem gl__splitroot : G2.glob "_splitroot" = some (.fn "_splitroot") := by kernel_rfl
theorem gl__normpath : G2.glob "_normpath" = some (.fn "_normpath") := by kernel_rfl
theorem gl_normpath : G2.glob "normpath" = some (.fn "normpath") := by kernel_rfl
theorem gl__Ignore : G2.glob "_Ignore" = some (.fn "_Ignore") := by kernel_rfl
theorem gl__special_chars_map : G2.glob "_special_chars_map" = some (.fn "_special_chars_map") := by kernel_rfl
theorem gl_escape : G2.glob "escape" = some (.fn "escape") := by kernel_rfl
theorem gl__translate : G2.glob "_translate" = some (.fn "_translate") := by kernel_rfl
theorem gl__NodeInfo : G2.glob "_NodeInfo" = some (.fn "_NodeInfo") := by kernel_rfl
theorem gl_TopologicalSorter : G2.glob "TopologicalSorter" = some (.fn "TopologicalSorter") := by kernel_rfl
theorem gl__law_rows : G2.glob "_law_rows" = some (.fn "_law_rows") := by kernel_rfl
theorem gl__law_files : G2.glob "_law_files" = some (.fn "_law_files") := by kernel_rfl
theorem gl__law_takes : G2.glob "_law_takes" = some (.fn "_law_takes") := by kernel_rfl
theorem gl__law_path : G2.glob "_law_path" = some (.fn "_law_path") := by kernel_rfl
theorem gl__law_told : G2.glob "_law_told" = some (.fn "_law_told") := by kernel_rfl
theorem gl__law_due : G2.glob "_law_due" = some (.fn "_law_due") := by kernel_rfl
theorem gl_len : G2.glob "len" = some (.g (.builtin "len")) := by kernel_rfl
theorem gl_isinstance : G2.glob "isinstance" = some (.g (.builtin "isinstance")) := by kernel_rfl
theorem gl_iter : G2.glob "iter" = some (.g (.builtin "iter")) := by kernel_rfl
theorem gl_sorted : G2.glob "sorted" = some (.g (.builtin "sorted")) := by kernel_rfl
theorem gl_max : G2.glob "max" = some (.g (.builtin "max")) := by kernel_rfl
theorem gl_str : G2.glob "str" = some (.g (.type "str")) := by kernel_rfl
theorem gl_list : G2.glob "list" = some (.g (.type "list")) := by kernel_rfl
theorem gl_range : G2.glob "range" = some (.g (.type "range")) := by kernel_rfl
theorem gl_type : G2.glob "type" = some (.g (.type "type")) := by kernel_rfl
theorem gl_set : G2.glob "set" = some (.g (.type "set")) := by kernel_rfl
theorem gl_tuple : G2.glob "tuple" = some (.g (.type "tuple")) := by kernel_rfl
theorem gl_bool : G2.glob "bool" = some (.g (.type "bool")) := by kernel_rfl
theorem gl_StopIteration : G2.glob "StopIteration" = some (.g (.type "StopIteration")) := by kernel_rfl

/-! ## the steps -/
section
variable {G : TG} {r : Rec} {n : Nat} {cx : Cx} {es : ES}

theorem opt_some {α : Type} {o : Option α} {Q : α → Prop} {a : α} (h : o = some a) (q : Q a) : opt o Q := ⟨a, h, q⟩

theorem ex_some {α : Type} {R Q : α → Prop} {a : α} (h : R a) (q : Q a) : ∃ a, R a ∧ Q a := ⟨a, h, q⟩
theorem sCons {st : Stmt} {rest : List Stmt} {Q : TF → ES → Prop} (h : StepS G r cx st es (seqK (evSs G r cx rest) Q)) : evSs G r cx (st :: rest) es Q := h
theorem kNext {E : ES → (TF → ES → Prop) → Prop} {Q : TF → ES → Prop} (h : E es Q) : seqK E Q .next es := h
theorem kRet {E : ES → (TF → ES → Prop) → Prop} {Q : TF → ES → Prop} {v : TV} (h : Q (.ret v) es) : seqK E Q (.ret v) es := h
theorem kBrk {E : ES → (TF → ES → Prop) → Prop} {Q : TF → ES → Prop} (h : Q .brk es) : seqK E Q .brk es := h
theorem kCont {E : ES → (TF → ES → Prop) → Prop} {Q : TF → ES → Prop} (h : Q .cont es) : seqK E Q .cont es := h
theorem rRet {Q : TV → List Cell → Prop} {v : TV} {loc : Str → Option TV} {cells : List Cell} (h : Q v cells) : retK Q (.ret v) ⟨loc, cells⟩ := h
theorem rNext {Q : TV → List Cell → Prop} {loc : Str → Option TV} {cells : List Cell} (h : Q .none cells) : retK Q .next ⟨loc, cells⟩ := h
theorem uNext {I : Nat → ES → Prop} {Q : TF → ES → Prop} {k : Nat} (h : ∃ m, m < k ∧ I m es) : turnK I Q k .next es := h
theorem uBrk {I : Nat → ES → Prop} {Q : TF → ES → Prop} {k : Nat} (h : Q .next es) : turnK I Q k .brk es := h
theorem uRet {I : Nat → ES → Prop} {Q : TF → ES → Prop} {k : Nat} {v : TV} (h : Q (.ret v) es) : turnK I Q k (.ret v) es := h
theorem uElse {Q : TF → ES → Prop} {fl : TF} (h : noExc fl ∧ Q fl es) : elseK Q fl es := h
theorem sNil {Q : TF → ES → Prop} (h : Q .next es) : evSs G r cx [] es Q := h
theorem rS {b : List Stmt} {Q : TF → ES → Prop} (h : evSs G (ev G n) cx b es Q) : (ev G (n + 1)).s cx b es Q := h
theorem rE {e : Expr} {Q : TV → ES → Prop} (h : StepE G (ev G n) cx e es Q) : (ev G (n + 1)).e cx e es Q := h
theorem rT {e : Expr} {Q : Bool → ES → Prop} (h : StepT G (ev G n) cx e es Q) : (ev G (n + 1)).t cx e es Q := h

/-- a local's read -/
noncomputable def isLoc (sc : Scope) (x : Str) : Bool := !(x == "__debug__") && !(x == "__classdict__") && (sc.names.lookup x == some .local || sc.names.lookup x == some .cell || sc.names.lookup x == some .free)
noncomputable def isGlo (sc : Scope) (x : Str) : Bool := !(x == "__debug__") && !(x == "__classdict__") && sc.names.lookup x == some .globalImplicit
noncomputable def isSto (sc : Scope) (x : Str) : Bool := sc.names.lookup x == some .local || sc.names.lookup x == some .cell
theorem and3 {a b c : Bool} (h : (!a && !b && c) = true) : a = false ∧ b = false ∧ c = true := by revert h; cases a <;> cases b <;> cases c <;> decide
theorem name_plain {x : Str} {P : Prop} [Decidable P] {α : Type} {u v : α} (h : (x == "__debug__") = false) (h' : (x == "__classdict__") = false) (hP : P → x = "__debug__" ∨ x = "__classdict__") : (if P then u else v) = v := if_neg fun z => (hP z).elim (fun e => Bool.false_ne_true (h.symm.trans (beq_iff_eq.mpr e))) fun e => Bool.false_ne_true (h'.symm.trans (beq_iff_eq.mpr e))
theorem name_loc {sc : Scope} {loc : Str → Option TV} {x : Str} {v : TV} (h : isLoc sc x = true) (e : loc x = some v) : nameTV G sc loc x = some v := by
  have h := and3 h
  refine (name_plain h.1 h.2.1 id).trans ?_
  exact (Bool.or_eq_true_iff.mp h.2.2).elim (fun z => (Bool.or_eq_true_iff.mp z).elim (fun z => by rw [eq_of_beq z]; exact e) fun z => by rw [eq_of_beq z]; exact e) fun z => by rw [eq_of_beq z]; exact e
theorem name_glo {sc : Scope} {loc : Str → Option TV} {x : Str} {v : TV} (h : isGlo sc x = true) (e : G.glob x = some v) : nameTV G sc loc x = some v := by
  have h := and3 h
  refine (name_plain h.1 h.2.1 id).trans ?_
  rw [eq_of_beq h.2.2]
  exact e
theorem sto {x : Str} {v : TV} {loc : Str → Option TV} {cells : List Cell} {Q : ES → Prop} (h : isSto cx.sc x = true) (q : Q ⟨upd loc x v, cells⟩) : storeTV cx x v ⟨loc, cells⟩ Q := ⟨(Bool.or_eq_true_iff.mp h).imp eq_of_beq eq_of_beq, q⟩
theorem upd_hit {f : Str → Option TV} {x : Str} {v : TV} : upd f x v x = some v := if_pos rfl
theorem upd_miss {f : Str → Option TV} {x y : Str} {v : TV} {w : Option TV} (h : (y == x) = false) (e : f y = w) : upd f x v y = w := (if_neg (ne_of_beq_false h)).trans e
theorem lookD_hit {k : Str} {v : TV} {l : List (Str × TV)} : lookD ((k, v) :: l) k = some v := if_pos rfl
theorem lookD_miss {k x : Str} {v : TV} {l : List (Str × TV)} {w : Option TV} (h : (x == k) = false) (e : lookD l k = w) : lookD ((x, v) :: l) k = w := (if_neg (ne_of_beq_false h)).trans e

theorem asg_plain {t v : Expr} {p : Pos} {Q : TF → ES → Prop} (_ : thawsP t v = false) (h : ∀ env, swappedStores [t] v env = pure none) (h' : ∀ t l env, swapsWith v t l env = pure false) (q : r.e cx v es fun x es => AsgT G r cx t x es fun es => Q .next es) : StepS' G r cx es Q (.Assign [t] v p) := .asg h (.plain h' q)
theorem cFn {hn : Bool} {x : Str} {f : FnI} {args : List TV} {cells : List Cell} {Q : TV → List Cell → Prop} (hk : G.kind x = some (.fn f)) (h : callFn (ev G n) hn f args cells Q) : (ev G (n + 1)).c hn (.fn x) args cells Q := StepC.fn hk h
theorem cCls {hn : Bool} {x i : Str} {args : List TV} {cells : List Cell} {Q : TV → List Cell → Prop} (hk : G.kind x = some (.cls (some i)))
    (h : (ev G n).c hn (.fn i) (.ref (cells.length + 1) :: args) (cells ++ [.ns [], .obj x cells.length]) fun v cells' => v = .none ∧ Q (.ref (cells.length + 1)) cells') : (ev G (n + 1)).c hn (.fn x) args cells Q := StepC.cls hk h
theorem cSlot {hn : Bool} {x i : Str} {ns : List Str} {args : List TV} {cells : List Cell} {Q : TV → List Cell → Prop} (hk : G.kind x = some (.slotted i ns))
    (h : (ev G n).c hn (.fn i) (.ref cells.length :: args) (cells ++ [.slots x (ns.map fun _ => none)]) fun v cells' => v = .none ∧ Q (.ref cells.length) cells') : (ev G (n + 1)).c hn (.fn x) args cells Q := StepC.slotted hk h
theorem bindS {f : FnI} {args : List TV} {cells : List Cell} {l : List (Str × TV)} {Q : (Str → Option TV) → List Cell → Prop} (h : bindPos f args = some l) (hv : f.vararg = none) (hk : f.kwarg = none) (q : Q (lookD l) cells) : bindAll f args cells Q := ⟨l, h, by
  unfold varL kwL kwC
  rw [hv, hk]
  show Q (lookD (l ++ [] ++ [])) (cells ++ [])
  rw [List.append_nil, List.append_nil, List.append_nil]
  exact q⟩
theorem bindVK {f : FnI} {args : List TV} {cells : List Cell} {l l' : List (Str × TV)} {a k : Str} {Q : (Str → Option TV) → List Cell → Prop} (h : bindPos f args = some l) (hv : f.vararg = some a) (hk : f.kwarg = some k)
    (e : l ++ [(a, .tup (args.drop f.params.length))] ++ [(k, .ref cells.length)] = l') (q : Q (lookD l') (cells ++ [.dict [] false])) : bindAll f args cells Q := ⟨l, h, by
  unfold varL kwL kwC
  rw [hv, hk]
  show Q (lookD (l ++ [(a, .tup (args.drop f.params.length))] ++ [(k, .ref cells.length)])) (cells ++ [.dict [] false])
  rw [e]
  exact q⟩
theorem bindV {f : FnI} {args : List TV} {cells : List Cell} {l l' : List (Str × TV)} {a : Str} {Q : (Str → Option TV) → List Cell → Prop} (h : bindPos f args = some l) (hv : f.vararg = some a) (hk : f.kwarg = none)
    (e : l ++ [(a, .tup (args.drop f.params.length))] = l') (q : Q (lookD l') cells) : bindAll f args cells Q := ⟨l, h, by
  unfold varL kwL kwC
  rw [hv, hk]
  show Q (lookD (l ++ [(a, .tup (args.drop f.params.length))] ++ [])) (cells ++ [])
  rw [List.append_nil, List.append_nil, e]
  exact q⟩

/-! expressions -/
theorem eName {x : Str} {p : Pos} {v : TV} {Q : TV → ES → Prop} (h : nameTV G cx.sc es.loc x = some v) (q : Q v es) : (ev G (n + 1)).e cx (.Name x p) es Q := rE (.name h q)
theorem eInt {i : Int} {k : Nat} {p : Pos} {Q : TV → ES → Prop} (q : Q (.int i) es) : (ev G (n + 1)).e cx (.Constant (.int i) k p) es Q := rE (.const rfl q)
theorem eNone {k : Nat} {p : Pos} {Q : TV → ES → Prop} (q : Q .none es) : (ev G (n + 1)).e cx (.Constant .none k p) es Q := rE (.const rfl q)
theorem eBool {b : Bool} {k : Nat} {p : Pos} {Q : TV → ES → Prop} (q : Q (.bool b) es) : (ev G (n + 1)).e cx (.Constant (.bool b) k p) es Q := rE (.const rfl q)
theorem eStr {s : Str} {k : Nat} {p : Pos} {Q : TV → ES → Prop} (h : PyData.strOk s = true) (q : Q (.str s) es) : (ev G (n + 1)).e cx (.Constant (.str s) k p) es Q := rE (.const (if_pos h) q)
theorem eBin {a b : Expr} {op : Operator} {p : Pos} {Q : TV → ES → Prop} (h : (ev G n).e cx a es fun a es => (ev G n).e cx b es fun b es => ∃ v, Bin es.cells op a b v ∧ Q v es) : (ev G (n + 1)).e cx (.BinOp a op b p) es Q := rE (.bin h)
theorem eNeg {e : Expr} {p : Pos} {Q : TV → ES → Prop} (h : (ev G n).e cx e es fun v es => ∃ i, v = .int i ∧ Q (.int (-i)) es) : (ev G (n + 1)).e cx (.UnaryOp .USub e p) es Q := rE (.neg h)
theorem eIf {t a b : Expr} {p : Pos} {Q : TV → ES → Prop} (h : (ev G n).t cx t es fun c es => if c then (ev G n).e cx a es Q else (ev G n).e cx b es Q) : (ev G (n + 1)).e cx (.IfExp t a b p) es Q := rE (.ifexp h)
theorem eList {xs : List Expr} {p : Pos} {Q : TV → ES → Prop} (h : evL (ev G n) cx xs es fun vs es => vs.length ≤ lim ∧ Q (.list (frzs vs es.cells).1) { es with cells := (frzs vs es.cells).2 }) : (ev G (n + 1)).e cx (.List xs p) es Q := rE (.list h)
theorem eTup {xs : List Expr} {k : Nat} {p : Pos} {Q : TV → ES → Prop} (h : evL (ev G n) cx xs es fun vs es => vs.length ≤ lim ∧ Q (.tup vs) es) : (ev G (n + 1)).e cx (.Tuple xs k p) es Q := rE (.tuple h)
theorem eComp {elt : Expr} {gens : List Comprehension} {sc' : Scope} {p : Pos} {Q : TV → ES → Prop} (h : evComp (ev G n) cx elt gens sc' es Q) : (ev G (n + 1)).e cx (.ListComp elt gens sc' p) es Q := rE (.comp h)
theorem eCmp {a b : Expr} {op : CmpOp} {p : Pos} {Q : TV → ES → Prop} (hb : behindInMarks op b = false) (h : (ev G n).e cx a es fun a es => (ev G n).e cx b es fun b es => opt (cmpTV es.cells op a b) fun c => Q (.bool c) es) : (ev G (n + 1)).e cx (.Compare a [op] [b] p) es Q := rE (.cmp hb h)
theorem eOr {a b : Expr} {p : Pos} {Q : TV → ES → Prop} (h : (ev G n).e cx a es fun v es => opt (truthTV es.cells v) fun c => if c then Q v es else (ev G n).e cx b es Q) : (ev G (n + 1)).e cx (.BoolOp .Or [a, b] p) es Q := rE (.or h)
theorem eSub {a s : Expr} {p : Pos} {Q : TV → ES → Prop} (h : (ev G n).e cx a es fun o es => SubE (ev G n) cx o s es Q) : (ev G (n + 1)).e cx (.Subscript a s p) es Q := rE (.sub h)
theorem eAttr {e : Expr} {a : Str} {p : Pos} {Q : TV → ES → Prop} (hs : ∀ env whole, attributeBase e a env whole = whole) (h : (ev G n).e cx e es fun o es => opt (attrTV G es.cells o a) fun v => Q v es) : (ev G (n + 1)).e cx (.Attribute e a p) es Q := rE (.attr hs h)
theorem eWal {x : Str} {p p' : Pos} {e : Expr} {Q : TV → ES → Prop} (h : (ev G n).e cx e es fun v es => storeTV cx x v es fun es => Q v es) : (ev G (n + 1)).e cx (.NamedExpr (.Name x p) e p') es Q := rE (.named h)
theorem eDict0 {p : Pos} {loc : Str → Option TV} {cells : List Cell} {Q : TV → ES → Prop} (q : Q (.ref cells.length) ⟨loc, cells ++ [.dict [] false]⟩) : (ev G (n + 1)).e cx (.Dict [] [] p) ⟨loc, cells⟩ Q := rE (.dict0 q)
theorem eDict1 {k : Str} {i : Int} {k1 k2 : Nat} {p1 p2 p : Pos} {loc : Str → Option TV} {cells : List Cell} {Q : TV → ES → Prop} (h : PyData.strOk k = true) (q : Q (.ref cells.length) ⟨loc, cells ++ [.dict [(k, .int i)] false]⟩) :
    (ev G (n + 1)).e cx (.Dict [some (.Constant (.str k) k1 p1)] [.Constant (.int i) k2 p2] p) ⟨loc, cells⟩ Q := rE (.dict1 h q)
theorem eCallN {x : Str} {p' p : Pos} {args : List Expr} {Q : TV → ES → Prop} (hl : loneOk args = true) (h : (ev G n).e cx (.Name x p') es fun fv es => evL (ev G n) cx args es fun vs es => callTV G (ev G n) cx fv vs es Q) : (ev G (n + 1)).e cx (.Call (.Name x p') args [] p) es Q := rE (.call (fun _ => rfl) hl h)
theorem eCallS {a s : Expr} {p' p : Pos} {args : List Expr} {Q : TV → ES → Prop} (hl : loneOk args = true) (h : (ev G n).e cx (.Subscript a s p') es fun fv es => evL (ev G n) cx args es fun vs es => callTV G (ev G n) cx fv vs es Q) : (ev G (n + 1)).e cx (.Call (.Subscript a s p') args [] p) es Q := rE (.call (fun _ => rfl) hl h)
theorem eCallA {o : Expr} {m : Str} {ap p : Pos} {args : List Expr} {Q : TV → ES → Prop} (hs : ∀ env whole, attributeBase o m env whole = whole) (hst : ∀ env, (backTo p (starEach args env)).any (·.1) = args.any isStar) (hl : loneOk args = true)
    (h : (ev G n).e cx o es fun ov es => opt (methOf G es.cells ov m) fun fv => if args.any isStar = true then isBuiltinCallee fv = false ∧ evL (ev G n) cx args es fun vs es => callTV G (ev G n) cx fv (ov :: vs) es Q
      else args.length < 29 ∧ ap.endLine = p.line ∧ evL (ev G n) cx args es fun vs es => callTV G (ev G n) cx fv (ov :: vs) es Q) : (ev G (n + 1)).e cx (.Call (.Attribute o m ap) args [] p) es Q := rE (.callM hs hst hl h)
/-- a method found -/
theorem mNo {args : List Expr} {A B : Prop} {l p : Nat} (h : args.any isStar = false) (h1 : args.length < 29) (h2 : l = p) (q : B) : (if args.any isStar = true then A else args.length < 29 ∧ l = p ∧ B) := by
  rw [h]; exact ⟨h1, h2, q⟩
theorem mYes {args : List Expr} {A B : Prop} (h : args.any isStar = true) (q : A) : (if args.any isStar = true then A else B) := by rw [if_pos h]; exact q
theorem lNil {Q : List TV → ES → Prop} (q : Q [] es) : evL r cx [] es Q := q
theorem lCons {e : Expr} {rest : List Expr} {Q : List TV → ES → Prop} (h : ∀ env rest, starEach (e :: rest) env = (false, eval e env) :: starEach rest env) (q : r.e cx e es fun v es => evL r cx rest es fun vs es => Q (v :: vs) es) : evL r cx (e :: rest) es Q := EvA.one h q
theorem lStar {e : Expr} {p : Pos} {rest : List Expr} {Q : List TV → ES → Prop} (q : r.e cx e es fun v es => opt (seqOfTV es.cells v) fun xs => xs.length ≤ lim ∧ evL r cx rest es fun vs es => Q (xs ++ vs) es) : evL r cx (.Starred e p :: rest) es Q := EvA.star q
theorem callF {x : Str} {vs : List TV} {loc : Str → Option TV} {cells : List Cell} {Q : TV → ES → Prop} (h : (G.kind x).isSome = true) (q : r.c cx.hn (.fn x) vs cells fun v cells => Q v ⟨loc, cells⟩) : callTV G r cx (.fn x) vs ⟨loc, cells⟩ Q := .inl ⟨x, rfl, h, q⟩
theorem callG {g : Value} {vs : List TV} {v : TV} {loc : Str → Option TV} {cells cells' : List Cell} {Q : TV → ES → Prop} (h : Plain cx.hn cells (.g g) vs v cells') (q : Q v ⟨loc, cells'⟩) : callTV G r cx (.g g) vs ⟨loc, cells⟩ Q := .inr ⟨v, cells', h, q⟩
theorem callB {k : Nat} {m : String} {vs : List TV} {v : TV} {loc : Str → Option TV} {cells cells' : List Cell} {Q : TV → ES → Prop} (h : Plain cx.hn cells (.bm k m) vs v cells') (q : Q v ⟨loc, cells'⟩) : callTV G r cx (.bm k m) vs ⟨loc, cells⟩ Q := .inr ⟨v, cells', h, q⟩
theorem ifT {c : Bool} {A B : Prop} (h : c = true) (q : A) : if c then A else B := by rw [h]; exact q
theorem ifF {c : Bool} {A B : Prop} (h : c = false) (q : B) : if c then A else B := by rw [h]; exact q

/-! tests -/
theorem tNot {e : Expr} {p : Pos} {Q : Bool → ES → Prop} (h : (ev G n).t cx e es fun b es => Q (!b) es) : (ev G (n + 1)).t cx (.UnaryOp .Not e p) es Q := rT (.not h)
theorem tBool {op : BoolOp} {vs : List Expr} {p : Pos} {Q : Bool → ES → Prop} (h : evBoolT (ev G n) cx op vs es Q) : (ev G (n + 1)).t cx (.BoolOp op vs p) es Q := rT (.boolop h)
theorem tCmp {a b : Expr} {op : CmpOp} {p : Pos} {Q : Bool → ES → Prop} (hb : behindInMarks op b = false) (h : (ev G n).e cx a es fun a es => (ev G n).e cx b es fun b es => opt (cmpTV es.cells op a b) fun c => Q c es) : (ev G (n + 1)).t cx (.Compare a [op] [b] p) es Q := rT (.cmp hb h)
theorem tPlain {e : Expr} {Q : Bool → ES → Prop} (h : ∀ env whole, isTrue e env whole = (do let v ← whole; standAt e.pos; holding [v] (truthy v))) (q : (ev G (n + 1)).e cx e es fun v es => opt (truthTV es.cells v) fun b => Q b es) : (ev G (n + 1)).t cx e es Q := rT (.plain h q)
theorem iNil {Q : Bool → ES → Prop} (q : Q true es) : evIfs r cx [] es Q := q
theorem iCons {c : Expr} {cs : List Expr} {Q : Bool → ES → Prop} (q : r.t cx c es fun b es => if b then evIfs r cx cs es Q else Q false es) : evIfs r cx (c :: cs) es Q := q
theorem bNilA {Q : Bool → ES → Prop} (q : Q true es) : evBoolT r cx .And [] es Q := q
theorem bNilO {Q : Bool → ES → Prop} (q : Q false es) : evBoolT r cx .Or [] es Q := q
theorem bAnd {e : Expr} {rest : List Expr} {Q : Bool → ES → Prop} (q : r.t cx e es fun b es => if b = true then evBoolT r cx .And rest es Q else Q false es) : evBoolT r cx .And (e :: rest) es Q := by
  have h : (fun (b : Bool) es => if b = true then evBoolT r cx .And rest es Q else Q false es) = fun b es => if b = isOr .And then Q b es else evBoolT r cx .And rest es Q := funext fun b => funext fun es => by cases b <;> rfl
  rw [h] at q
  exact q
theorem bOr {e : Expr} {rest : List Expr} {Q : Bool → ES → Prop} (q : r.t cx e es fun b es => if b = true then Q true es else evBoolT r cx .Or rest es Q) : evBoolT r cx .Or (e :: rest) es Q := by
  have h : (fun (b : Bool) es => if b = true then Q true es else evBoolT r cx .Or rest es Q) = fun b es => if b = isOr .Or then Q b es else evBoolT r cx .Or rest es Q := funext fun b => funext fun es => by cases b <;> rfl
  rw [h] at q
  exact q
end
end

section
open PySem PySem.W PyProof.Rows

theorem pick_arr {α : Type} (xs : List α) (lo hi st : Option Int) : pick xs lo hi st = (sliceRange (sliceBounds lo hi st xs.toArray.size).1 (sliceBounds lo hi st xs.toArray.size).2.1 (sliceBounds lo hi st xs.toArray.size).2.2).filterMap (xs.toArray[·]?) := by
  unfold pick
  simp only [List.size_toArray, List.getElem?_toArray]
theorem pick_plain {α : Type} (xs : List α) (lo hi : Option Int) : pick xs lo hi none = (xs.drop (lo.elim 0 (clipAt xs.length))).take (hi.elim xs.length (clipAt xs.length) - lo.elim 0 (clipAt xs.length)) := by
  rw [pick_arr, sliceBounds_plain]
  simp only [sliceRange_one, pick_run, List.size_toArray]
theorem pick_take {α : Type} (xs : List α) (k : Nat) : pick xs none (some (k : Int)) none = xs.take k := by
  rw [pick_plain]
  simp only [Option.elim, clipAt_nat, List.drop_zero, Nat.sub_zero]
  rcases Nat.le_total k xs.length with h | h
  · rw [Nat.min_eq_left h]
  · rw [Nat.min_eq_right h, List.take_of_length_le (Nat.le_refl _), List.take_of_length_le h]
theorem pick_drop {α : Type} (xs : List α) (k : Nat) : pick xs (some (k : Int)) none none = xs.drop k := by
  rw [pick_plain]
  simp only [Option.elim, clipAt_nat]
  rcases Nat.le_total k xs.length with h | h
  · rw [Nat.min_eq_left h, List.take_of_length_le (by simp)]
  · rw [Nat.min_eq_right h, List.drop_of_length_le (Nat.le_refl _), List.drop_of_length_le h]; simp
theorem pick_mid {α : Type} (xs : List α) (a b : Nat) : pick xs (some (a : Int)) (some (b : Int)) none = (xs.take b).drop a := by
  rw [pick_plain]
  simp only [Option.elim, clipAt_nat]
  rw [List.drop_take]
  apply List.ext_getElem?
  intro i
  simp only [List.getElem?_take, List.getElem?_drop]
  by_cases h1 : i < min b xs.length - min a xs.length
  · rw [if_pos h1, if_pos (by omega), show min a xs.length = a by omega]
  · rw [if_neg h1]
    by_cases h2 : i < b - a
    · rw [if_pos h2, List.getElem?_eq_none (by omega)]
    · rw [if_neg h2]
theorem pick_init {α : Type} (xs : List α) : pick xs none (some (-1)) none = xs.dropLast := by
  rw [pick_plain, List.dropLast_eq_take]
  have := clipAt_neg xs.length 1 (by decide)
  simp only [Option.elim, List.drop_zero, Nat.sub_zero]
  rw [show (-1 : Int) = -((1 : Nat) : Int) by rfl, this]
theorem pick_rev {α : Type} (xs : List α) : pick xs none none (some (-1)) = xs.reverse := by
  unfold pick
  rw [krv_bounds, krv_sliceRange, List.filterMap_map]
  apply List.ext_getElem?
  intro i
  have key : ∀ m, m ≤ xs.length → List.filterMap ((fun i => xs[i]?) ∘ fun k => xs.length - 1 - k) (List.range m) = xs.reverse.take m := by
    intro m
    induction m with
    | zero => intro _; rfl
    | succ m ih =>
      intro hm
      rw [List.range_succ, List.filterMap_append, ih (by omega), List.take_add_one]
      congr 1
      simp only [List.filterMap_cons, List.filterMap_nil, Function.comp]
      rw [List.getElem?_reverse (by omega), List.getElem?_eq_getElem (by omega)]
      rfl
  rw [key _ (Nat.le_refl _), List.take_of_length_le (by simp)]

/-- a str by its signs -/
noncomputable def S (l : List Nat) : Str := ⟨l.toArray⟩
theorem S_inj {a b : List Nat} : S a = S b ↔ a = b := ⟨fun h => by simpa [S] using h, fun h => by rw [h]⟩
theorem S_len (l : List Nat) : (S l).length = l.length := rfl
theorem S_app (a b : List Nat) : S a ++ S b = S (a ++ b) := by
  show (⟨_⟩ : Str) = _
  simp [S]

theorem sl_str {l : List Nat} {lo hi : Option Int} {cells : List Cell} {a b : TV} (h : l.length ≤ lim) (ha : intPart a = some lo) (hb : intPart b = some hi) : sliceTV cells (.str (S l)) a b .none = some (.str (S (pick l lo hi none))) := by
  show ((intPart a).bind fun lo => (intPart b).bind fun hi => if (none : Option Int) = some 0 then none else sliceAt cells (.str (S l)) lo hi none) = _
  rw [ha, hb]
  have h0 : ¬ (none : Option Int) = some 0 := nofun
  show (if (none : Option Int) = some 0 then none else if (S l).length ≤ lim then some (TV.str ⟨(pick (S l).cps.toList lo hi none).toArray⟩) else none) = _
  rw [if_neg h0]
  exact if_pos h
theorem eq_py {cells : List Cell} {x y : PyData} {a b : TV} (ha : pyOf cells a = some x) (hb : pyOf cells b = some y) (h : x.depth ≤ 60 ∧ y.depth ≤ 60) : eqTV cells a b = some (PyData.eqv x y) := by
  show ((pyOf cells a).bind fun x => (pyOf cells b).bind fun y => if x.depth ≤ 60 ∧ y.depth ≤ 60 then some (PyData.eqv x y) else none) = _
  rw [ha, hb]
  exact if_pos h
theorem eq_str {cells : List Cell} {a b : Str} : cmpTV cells .Eq (.str a) (.str b) = some (a == b) := (eq_py rfl rfl (by simp [PyData.depth])).trans (by rw [PyData.eqv])
theorem ne_str {cells : List Cell} {a b : Str} : cmpTV cells .NotEq (.str a) (.str b) = some (!(a == b)) := congrArg (Option.map (!·)) (eq_str (cells := cells))
theorem eq_int {cells : List Cell} {a b : Int} : cmpTV cells .Eq (.int a) (.int b) = some (a == b) := (eq_py rfl rfl (by simp [PyData.depth])).trans (by rw [PyData.eqv])
theorem ne_int {cells : List Cell} {a b : Int} : cmpTV cells .NotEq (.int a) (.int b) = some (!(a == b)) := congrArg (Option.map (!·)) (eq_int (cells := cells))
theorem tr_str {cells : List Cell} {a : Str} (h : a.length ≤ lim) : truthTV cells (.str a) = some (a.length != 0) := if_pos h
theorem tr_list {cells : List Cell} {a : List TV} (h : a.length ≤ lim) : truthTV cells (.list a) = some (!a.isEmpty) := if_pos h
theorem tr_cell {cells : List Cell} {n : Nat} {a : List TV} (e : cells[n]? = some (.list a)) (h : a.length ≤ lim) : truthTV cells (.ref n) = some (!a.isEmpty) := by
  show truthC cells[n]? = _
  rw [e]
  exact if_pos h

theorem v_list {cells : List Cell} {n : Nat} {xs : List TV} (e : cells[n]? = some (.list xs)) : listOfTV cells (.ref n) = some xs := congrArg cellL e
theorem v_seq {cells : List Cell} {n : Nat} {xs : List TV} (e : cells[n]? = some (.list xs)) : seqOfTV cells (.ref n) = some xs := congrArg cellL e
theorem get_attr {G : TG} {cells : List Cell} {k d : Nat} {c a : Str} {kvs : List (Str × TV)} {v : TV} (h1 : cells[k]? = some (.obj c d)) (h2 : cells[d]? = some (.ns kvs)) (ha : G.attrOk c a = true) (hv : lookD kvs a = some v) (hn : notG v = true) :
    attrTV G cells (.ref k) a = some v := by
  show attrC G cells a k cells[k]? = _
  rw [h1]
  show ((cellN cells[d]?).bind fun kvs => if G.attrOk c a = true then (lookD kvs a).filter notG else none) = _
  rw [h2]
  show (if G.attrOk c a = true then (lookD kvs a).filter notG else none) = _
  rw [if_pos ha, hv]
  exact if_pos hn
theorem got_slot {G : TG} {cells : List Cell} {k i : Nat} {c a : Str} {vs : List (Option TV)} {v : TV} (h1 : cells[k]? = some (.slots c vs)) (ha : G.slotOf c a = some i) (hv : (vs[i]?).join = some v) (hn : notG v = true) :
    attrTV G cells (.ref k) a = some v := by
  show attrC G cells a k cells[k]? = _
  rw [h1]
  show ((G.slotOf c a).bind fun i => ((vs[i]?).join).filter notG) = _
  rw [ha]
  show ((vs[i]?).join).filter notG = _
  rw [hv]
  exact if_pos hn
theorem v_in {cells : List Cell} {n : Nat} {kvs : List (Str × TV)} {b : Bool} {k : TV} {x : Str} (e : cells[n]? = some (.dict kvs b)) (hk : keyTV k = some x) : cmpTV cells .In k (.ref n) = some (lookD kvs x).isSome := by
  show inC cells k cells[n]? = _
  rw [e]
  exact congrArg (Option.map _) hk
theorem v_inS {cells : List Cell} {n : Nat} {xs : List Str} {b : Bool} {k : TV} {x : Str} (e : cells[n]? = some (.set xs b)) (hk : keyTV k = some x) : cmpTV cells .In k (.ref n) = some (xs.contains x) := by
  show inC cells k cells[n]? = _
  rw [e]
  exact congrArg (Option.map _) hk
theorem v_item {cells : List Cell} {n : Nat} {kvs : List (Str × TV)} {b : Bool} {k v : TV} {x : Str} (e : cells[n]? = some (.dict kvs b)) (hk : keyTV k = some x) (hv : lookD kvs x = some v) : itemTV cells (.ref n) k = some v := by
  show (match cellD cells[n]? with | some kvs => (keyTV k).bind (lookD kvs) | none => itemSeq cells (.ref n) k) = _
  rw [e]
  show (keyTV k).bind (lookD kvs) = _
  rw [hk]
  exact hv
theorem v_set {cells : List Cell} {n : Nat} {kvs : List (Str × TV)} {k v : TV} {x : Str} (e : cells[n]? = some (.dict kvs false)) (hk : keyTV k = some x) (hl : kvs.length ≤ lim) : setItemTV cells (.ref n) k v = some (cells.set n (.dict (putD kvs x v) false)) := by
  show ((keyTV k).bind fun k => (cellDo cells[n]?).bind fun kvs => if kvs.length ≤ lim then some (cells.set n (.dict (putD kvs k v) false)) else none) = _
  rw [hk, e]
  exact if_pos hl
theorem v_bm {G : TG} {cells : List Cell} {n : Nat} {xs : List TV} (e : cells[n]? = some (.list xs)) : attrTV G cells (.ref n) "append" = some (.bm n "list.append") := by
  show attrC G cells "append" n cells[n]? = _
  rw [e]
  show (if ("append" : Str) = "append" then some (TV.bm n "list.append") else none) = _
  exact if_pos rfl
theorem frz_L {cells : List Cell} {n : Nat} {xs : List TV} (e : cells[n]? = some (.list xs)) : frz (.ref n) cells = (.list xs, cells.set n .dead) := congrArg (fun o => frzC n cells (cellL o)) e
theorem frz_N {cells : List Cell} {n : Nat} {c : Cell} (e : cells[n]? = some c) (h : cellL (some c) = none) : frz (.ref n) cells = (.ref n, cells) := (congrArg (fun o => frzC n cells (cellL o)) e).trans (congrArg (frzC n cells) h)
end

section
open PySem PySem.W PyProof.Rows
section
variable {G : TG} {r : Rec} {n : Nat} {cx : Cx}

theorem drop_cons {α : Type} {all xs : List α} {x : α} {i : Nat} (h : all.drop i = x :: xs) : all[i]? = some x ∧ all.drop (i + 1) = xs ∧ i + 1 ≤ all.length :=
  have hx : all[i]? = some x := (List.head?_drop (l := all) (i := i)).symm.trans (congrArg List.head? h)
  ⟨hx, (List.tail_drop (l := all) (i := i)).symm.trans (congrArg List.tail h), (List.getElem?_eq_some_iff.mp hx).1⟩
theorem drop_nil {α : Type} {all : List α} {i : Nat} (h : all.drop i = []) (hi : i ≤ all.length) : i = all.length := Nat.le_antisymm hi (List.drop_eq_nil_iff.mp h)

/-- a for's loop, by what holds at each turn -/
theorem for_inv {t : Expr} {k : WK} {src : TV} {all : List TV} {body : List Stmt} {Q : TF → ES → Prop} (J : Nat → ES → Prop) (hst : ∀ i es, J i es → stands k es.cells src all) (hend : ∀ es, J all.length es → Q .next es)
    (step : ∀ i x es, all[i]? = some x → J i es → ∀ T : TF → ES → Prop, (∀ es', J (i + 1) es' → T .next es') → (∀ es', J (i + 1) es' → T .cont es') → (∀ es', Q .next es' → T .brk es') → (∀ v es', Q (.ret v) es' → T (.ret v) es') →
      BindT cx t x es fun es => r.s cx body es T) {es : ES} (h : J 0 es) : forLoop r cx t k src all body all es Q := by
  have key : ∀ (xs : List TV) (i : Nat) (es : ES), all.drop i = xs → i ≤ all.length → J i es → forLoop r cx t k src all body xs es Q := by
    intro xs
    induction xs with
    | nil =>
      intro i es hd hi hJ
      exact ⟨hst i es hJ, hend es (drop_nil hd hi ▸ hJ)⟩
    | cons x xs ih =>
      intro i es hd hi hJ
      have D := drop_cons hd
      exact ⟨hst i es hJ, step i x es D.1 hJ _ (fun es' h => ih (i + 1) es' D.2.1 D.2.2 h) (fun es' h => ih (i + 1) es' D.2.1 D.2.2 h) (fun es' h => h) (fun v es' h => h)⟩
  exact key all 0 es rfl (Nat.zero_le _) h

/-- one clause of a comprehension whose outcome is known item by item -/
theorem gen_fm {g : Comprehension} {elt : Expr} {k : WK} {src : TV} {xs : List TV} {Q : List TV → ES → Prop} (f : TV → Option TV) (I : ES → Prop) (hst : ∀ es, I es → stands k es.cells src xs)
    (step : ∀ x ∈ xs, ∀ es, I es → ∀ T : Option TV → ES → Prop, (∀ es', I es' → T (f x) es') → BindT cx g.target x es fun es => evIfs r cx g.ifs es fun b es => if b then r.e cx elt es fun v es => T (some v) es else T none es)
    {es : ES} (h : I es) (hl : xs.length ≤ lim) (q : ∀ es', I es' → Q (xs.filterMap f) es') : genLoop r cx g k src xs (evGens r cx elt []) xs es [] Q := by
  have key : ∀ (ys : List TV) (acc : List TV) (es : ES), (∀ y ∈ ys, y ∈ xs) → acc.length + ys.length ≤ lim → I es → (∀ es', I es' → Q (acc ++ ys.filterMap f) es') → genLoop r cx g k src xs (evGens r cx elt []) ys es acc Q := by
    intro ys
    induction ys with
    | nil =>
      intro acc es _ _ hI hq
      exact ⟨hst es hI, by simpa using hq es hI⟩
    | cons y ys ih =>
      intro acc es hy hlen hI hq
      refine ⟨hst es hI, ?_⟩
      have ih' : ∀ es', I es' → (match f y with
          | some v => (acc ++ [v]).length ≤ lim ∧ genLoop r cx g k src xs (evGens r cx elt []) ys es' (acc ++ [v]) Q
          | none => genLoop r cx g k src xs (evGens r cx elt []) ys es' acc Q) := by
        intro es' hI'
        simp only [List.length_cons] at hlen
        cases e : f y with
        | none => exact ih acc es' (fun z hz => hy z (.tail _ hz)) (by omega) hI' fun es'' h'' => by have := hq es'' h''; rwa [List.filterMap_cons, e] at this
        | some v =>
          refine ⟨by simp; omega, ih (acc ++ [v]) es' (fun z hz => hy z (.tail _ hz)) (by simp; omega) hI' fun es'' h'' => ?_⟩
          have := hq es'' h''
          rw [List.filterMap_cons, e] at this
          simpa using this
      exact step y (hy y (.head _)) es hI (fun o es' => match o with
        | some v => (acc ++ [v]).length ≤ lim ∧ genLoop r cx g k src xs (evGens r cx elt []) ys es' (acc ++ [v]) Q
        | none => genLoop r cx g k src xs (evGens r cx elt []) ys es' acc Q) ih'
  exact key xs [] es (fun _ h => h) (by simpa using hl) h (by simpa using q)

theorem set_same {α : Type} {l : List α} {k : Nat} {c : α} (e : l[k]? = some c) : l.set k c = l := by
  obtain ⟨h, e⟩ := List.getElem?_eq_some_iff.mp e
  rw [← e]
  exact List.set_getElem_self h
theorem standsL {xs : List TV} {cells : List Cell} (h : xs.length ≤ lim) : stands .list cells (.list xs) xs := ⟨.inl rfl, h⟩
theorem standsT {xs : List TV} {cells : List Cell} (h : xs.length ≤ lim) : stands .tup cells (.tup xs) xs := ⟨rfl, h⟩
theorem standsC {xs : List TV} {k : Nat} {cells : List Cell} (e : cells[k]? = some (.list xs)) (h : xs.length ≤ lim) : stands .list cells (.ref k) xs := ⟨.inr ⟨k, rfl, e⟩, h⟩
theorem standsS {k : Nat} {cells : List Cell} (e : cells[k]? = some (.set [] true)) : stands .set cells (.ref k) [] := ⟨⟨k, rfl, e, rfl⟩, Nat.zero_le _⟩
theorem walkL {xs : List TV} {loc : Str → Option TV} {cells : List Cell} {Q : WK → List TV → ES → Prop} (h : xs.length ≤ lim) (q : Q .list xs ⟨loc, cells⟩) : walks ⟨loc, cells⟩ (.list xs) Q := ⟨.list, xs, standsL h, q⟩
theorem walkT {xs : List TV} {loc : Str → Option TV} {cells : List Cell} {Q : WK → List TV → ES → Prop} (h : xs.length ≤ lim) (q : Q .tup xs ⟨loc, cells⟩) : walks ⟨loc, cells⟩ (.tup xs) Q := ⟨.tup, xs, standsT h, q⟩
theorem walkC {xs : List TV} {k : Nat} {loc : Str → Option TV} {cells : List Cell} {Q : WK → List TV → ES → Prop} (e : cells[k]? = some (.list xs)) (h : xs.length ≤ lim) (q : Q .list xs ⟨loc, cells⟩) : walks ⟨loc, cells⟩ (.ref k) Q := by
  have hl : lockTV cells (.ref k) = cells := by
    show lockAt cells k cells[k]? = _
    rw [e]
    exact set_same e
  refine ⟨.list, xs, ?_, ?_⟩
  · show stands .list (lockTV cells (.ref k)) (.ref k) xs
    rw [hl]
    exact standsC e h
  · show Q .list xs ⟨loc, lockTV cells (.ref k)⟩
    rw [hl]
    exact q
theorem walkS {k : Nat} {b : Bool} {loc : Str → Option TV} {cells : List Cell} {Q : WK → List TV → ES → Prop} (e : cells[k]? = some (.set [] b)) (q : Q .set [] ⟨loc, cells.set k (.set [] true)⟩) : walks ⟨loc, cells⟩ (.ref k) Q := by
  have hl : lockTV cells (.ref k) = cells.set k (.set [] true) := by
    show lockAt cells k cells[k]? = _
    rw [e]
    rfl
  refine ⟨.set, [], ?_, ?_⟩
  · show stands .set (lockTV cells (.ref k)) (.ref k) []
    rw [hl]
    exact standsS (List.getElem?_set_self (List.getElem?_eq_some_iff.mp e).1)
  · show Q .set [] ⟨loc, lockTV cells (.ref k)⟩
    rw [hl]
    exact q
theorem at_last {α : Type} (l : List α) (x : α) : (l ++ [x])[l.length]? = some x := by simp
theorem set_last {α : Type} (l : List α) (x y : α) : (l ++ [x]).set l.length y = l ++ [y] := by simp
theorem map_at {α β : Type} {l : List α} {f : α → β} {i : Nat} {y : β} (h : (l.map f)[i]? = some y) : ∃ x, l[i]? = some x ∧ y = f x := by
  rw [List.getElem?_map] at h
  cases e : l[i]? with
  | none => rw [e] at h; cases h
  | some x => rw [e] at h; exact ⟨x, rfl, by cases h; rfl⟩
theorem take_step {α : Type} {l : List α} {i : Nat} {x : α} (h : l[i]? = some x) : l.take (i + 1) = l.take i ++ [x] := by
  rw [List.take_add_one, h]; rfl
theorem stNil {es : ES} {Q : ES → Prop} (q : Q es) : storeAll cx [] [] es Q := ⟨rfl, q⟩
theorem stCons {x : Str} {p : Pos} {ts : List Expr} {v : TV} {vs : List TV} {loc : Str → Option TV} {cells : List Cell} {Q : ES → Prop} (h : isSto cx.sc x = true) (q : storeAll cx ts vs ⟨upd loc x v, cells⟩ Q) :
    storeAll cx (.Name x p :: ts) (v :: vs) ⟨loc, cells⟩ Q := ⟨x, p, v, vs, rfl, rfl, sto h q⟩
theorem take_map {α β : Type} {l : List α} {f : α → β} {i : Nat} {x : α} (h : l[i]? = some x) : (l.take i).map f ++ [f x] = (l.take (i + 1)).map f := by rw [take_step h, List.map_append]; rfl
theorem agNil {v : TV} {es : ES} {Q : ES → Prop} (q : Q es) : asgAll G r cx [] v es Q := q
theorem agCons {t : Expr} {ts : List Expr} {v : TV} {es : ES} {Q : ES → Prop} (q : AsgT G r cx t v es fun es => asgAll G r cx ts v es Q) : asgAll G r cx (t :: ts) v es Q := q
theorem newList {p : Pos} {loc : Str → Option TV} {cells : List Cell} {Q : TV → ES → Prop} (q : Q (.ref cells.length) ⟨loc, cells ++ [.list []]⟩) : AsgV r cx ⟨loc, cells⟩ Q (.List [] p) := .list (show ([] : List TV).length ≤ lim ∧ _ from ⟨Nat.zero_le _, q⟩)
theorem inner_hit {sc : Scope} {loc : Str → Option TV} {x : Str} {v : Option TV} (h : (sc.names.lookup x == some .free) = true) (q : loc x = v) : inner sc loc x = v := by
  exact (if_pos (eq_of_beq h)).trans q
end
theorem m_split {G : TG} {cells : List Cell} {x : Str} : methOf G cells (.str x) "split" = some (.g (.builtin "str.split")) := by kernel_rfl
theorem m_join {G : TG} {cells : List Cell} {x : Str} : methOf G cells (.str x) "join" = some (.g (.builtin "str.join")) := by kernel_rfl
theorem m_starts {G : TG} {cells : List Cell} {x : Str} : methOf G cells (.str x) "startswith" = some (.g (.builtin "str.startswith")) := by kernel_rfl
theorem m_append {G : TG} {cells : List Cell} {k : Nat} {xs : List TV} (e : cells[k]? = some (.list xs)) : methOf G cells (.ref k) "append" = some (.g (.builtin "list.append")) := by
  show methC G cells "append" cells[k]? = _
  rw [e]
  kernel_rfl
theorem m_dget {G : TG} {cells : List Cell} {k : Nat} {xs : List (Str × TV)} {b : Bool} (e : cells[k]? = some (.dict xs b)) : methOf G cells (.ref k) "get" = some (.g (.builtin "dict.get")) := by
  show methC G cells "get" cells[k]? = _
  rw [e]
  kernel_rfl
theorem m_translate {G : TG} {cells : List Cell} {x : Str} : methOf G cells (.str x) "translate" = some (.g (.builtin "str.translate")) := by kernel_rfl
theorem strList_map (l : List Str) : strList (l.map .str) = some l := by
  induction l with
  | nil => rfl
  | cons a l ih =>
    show ((some a).bind fun s => (strList (l.map .str)).map (s :: ·)) = _
    rw [ih]
    rfl
end

open PySem PySem.W PyProof.Rows
/-- a look at a name's value -/
local macro_rules | `(tactic| walk_at "lk") => `(tactic| first
  | with_reducible first | assumption | exact upd_hit | exact lookD_hit
  | ((with_reducible first | refine upd_miss (by kernel_rfl!) ?_ | refine lookD_miss (by kernel_rfl!) ?_ | refine inner_hit (by kernel_rfl!) ?_); walk_at "lk"))
local macro_rules | `(tactic| walk_at "nm") => `(tactic| first
  | (refine name_loc ?h1 ?h2; (case h1 => kernel_rfl!); (case h2 => walk_at "lk"))
  | (refine name_glo ?h1 ?h2; (case h1 => kernel_rfl!); (case h2 => with_reducible first | exact gl_sep | exact gl__NODE_OUT | exact gl__NODE_DONE | exact gl__kind | exact gl__c_path | exact gl__shelf_fresh | exact gl__splitroot | exact gl__normpath | exact gl_normpath | exact gl__Ignore | exact gl__special_chars_map | exact gl_escape | exact gl__translate | exact gl__NodeInfo | exact gl_TopologicalSorter | exact gl__law_rows | exact gl__law_files | exact gl__law_takes | exact gl__law_path | exact gl__law_told | exact gl__law_due | exact gl_len | exact gl_isinstance | exact gl_iter | exact gl_sorted | exact gl_max | exact gl_str | exact gl_list | exact gl_range | exact gl_type | exact gl_set | exact gl_tuple | exact gl_bool | exact gl_StopIteration)))
/-- the steps that need no word -/
local macro_rules | `(tactic| walk_at "st") => `(tactic| first
  | (with_reducible refine eName (v := ?v) ?h ?m; (case h => walk_at "nm"))
  | ((with_reducible show evSs _ _ _ _ _ _); first | refine sCons ?_ | refine sNil ?_)
  | with_reducible first
    | refine rS ?_
    | refine kNext ?_
    | refine kRet ?_
    | refine rRet ?_
    | refine rNext ?_
    | refine kBrk ?_
    | refine kCont ?_
    | refine uNext ?_
    | refine uBrk ?_
    | refine uRet ?_
    | refine uElse ?_
    | refine eInt ?_
    | refine eNone ?_
    | refine eBool ?_
    | refine eStr (by kernel_rfl!) ?_
    | refine eBin ?_
    | refine eNeg ?_
    | refine eIf ?_
    | refine eList ?_
    | refine eTup ?_
    | refine eCmp (by kernel_rfl!) ?_
    | refine eOr ?_
    | refine eComp ?_
    | refine eSub ?_
    | refine eAttr (fun _ _ => by kernel_rfl!) ?_
    | refine eWal ?_
    | refine eDict0 ?_
    | refine eDict1 (by kernel_rfl!) ?_
    | refine eCallN (by kernel_rfl!) ?_
    | refine eCallS (by kernel_rfl!) ?_
    | refine eCallA (fun _ _ => by kernel_rfl!) (fun _ => by kernel_rfl!) (by kernel_rfl!) ?_
    | refine tNot ?_
    | refine tBool ?_
    | refine tCmp (by kernel_rfl!) ?_
    | refine tPlain (fun _ _ => by kernel_rfl!) ?_
    | refine ifT (c := true) rfl ?_
    | refine ifF (c := false) rfl ?_
    | refine ifT (c := !false) rfl ?_
    | refine ifF (c := !true) rfl ?_
    | refine iNil ?_
    | refine iCons ?_
    | refine bAnd ?_
    | refine bOr ?_
    | refine bNilA ?_
    | refine bNilO ?_
    | refine lNil ?_
    | refine lCons (fun _ _ => by kernel_rfl!) ?_
    | refine lStar ?_
    | refine stCons (by kernel_rfl!) ?_
    | refine stNil ?_
    | refine sto (by kernel_rfl!) ?_
    | refine StepS'.expr (fun _ _ _ => by kernel_rfl!) ?_
    | refine StepS'.pass ?_
    | refine StepS'.brk ?_
    | refine StepS'.cont ?_
    | refine StepS'.ret0 ?_
    | refine StepS'.ret ?_
    | refine StepS'.if_ ?_
    | refine StepS'.assert ?_
    | refine StepS'.del ?_
    | refine AsgT'.name (sto (by kernel_rfl!) ?_)
    | refine AsgT'.attr ?_
    | refine AsgT'.sub ?_
    | refine asg_plain (by kernel_rfl!) (fun _ => by kernel_rfl!) (fun _ _ _ => by kernel_rfl!) ?_)
local macro_rules | `(tactic| walk_at "go") => `(tactic| repeat walk_at "st")
local macro_rules | `(tactic| walk_at "sl") => `(tactic| (refine SubE'.slice ?_; dsimp only [optE]; walk_at "go"))
/-- a bound, by a hypothesis and a figure where that will do -/
local macro_rules | `(tactic| walk_at "om") => `(tactic| first
  | with_reducible assumption
  | with_reducible exact Nat.le_trans (by assumption) (by decide)
  | with_reducible exact Nat.lt_of_le_of_lt (by assumption) (by decide)
  | with_reducible exact Nat.le_trans (Nat.le_of_lt (by assumption)) (by decide)
  | (simp only [lim]; omega)
  | omega)
/-! end of the macros -/
theorem c_shelf {n : Nat} {l : List Nat} {cells : List Cell} {Q : TV → List Cell → Prop} (hs : l.length < lim) (q : Q (.str (S l)) cells) : (ev G2 (n + 10)).c true (.fn "_shelf_fresh") [.str (S l)] cells Q := by
  refine cFn (f := f_shelf) (by kernel_rfl) (bindS (l := [("s", .str (S l))]) (by kernel_rfl) (by kernel_rfl) (by kernel_rfl) ?_)
  walk_at "go"
  refine ⟨_, .adds (by rw [S_len]; show l.length + 1 ≤ lim; omega), ?_⟩
  rw [show (Str.ofString "/") = S [47] by decide +kernel, S_app]
  refine SubE'.slice ?_
  dsimp only [optE]
  walk_at "go"
  refine ⟨_, rfl, ?_⟩
  refine opt_some (sl_str (lo := none) (hi := some (-1)) (by rw [List.length_append]; show l.length + 1 ≤ lim; omega) rfl rfl) ?_
  rw [pick_init, List.dropLast_concat]
  exact q
theorem c_kind {n : Nat} {s t : Str} {cells : List Cell} {Q : TV → List Cell → Prop} (q : Q (.str "") cells) : (ev G2 (n + 10)).c true (.fn "_kind") [.str t, .str s] cells Q := by
  refine cFn (f := f_kind) (by kernel_rfl) (bindS (l := [("name", .str t), ("x", .str s)]) (by kernel_rfl) (by kernel_rfl) (by kernel_rfl) ?_)
  walk_at "go"
  refine callG (.type (by rfl) .type) ?_
  walk_at "go"
  refine opt_some rfl (ifT (by rfl) ?_)
  walk_at "go"
  exact q
theorem c_cpath {n : Nat} {s t u v : Str} {cells : List Cell} {k : Nat} {Q : TV → List Cell → Prop} (hk : cells[k]? = some (.dict [] false)) (q : Q (.str s) cells) :
    (ev G2 (n + 20)).c true (.fn "_c_path") [.str t, .str u, .str v, .tup [.str s], .ref k] cells Q := by
  refine cFn (f := f_cpath) (by kernel_rfl) (bindS (l := [("name", .str t), ("cname", .str u), ("argname", .str v), ("args", .tup [.str s]), ("kwargs", .ref k)]) (by kernel_rfl) (by kernel_rfl) (by kernel_rfl) ?_)
  walk_at "go"
  refine callG (.fn rfl (.len rfl (by simp [lim]))) ?_
  walk_at "go"
  refine opt_some (a := true) (by rw [eq_int]; rfl) (ifT (by rfl) ?_)
  walk_at "go"
  refine opt_some (a := false) (by simp only [truthTV, hk]; rfl) (ifT (by rfl) ?_)
  walk_at "go"
  walk_at "go"
  walk_at "go"
  refine .item (fun _ _ => by rfl) ?_
  walk_at "go"
  refine opt_some (a := .str s) rfl ?_
  walk_at "go"
  refine callF (by kernel_rfl) ?_
  refine c_kind ?_
  walk_at "go"
  refine opt_some (a := false) (by rw [tr_str (by decide +kernel)]; rfl) (ifF (by rfl) ?_)
  walk_at "go"
  exact q
theorem c_split {n : Nat} {c : Nat} {l : List Nat} {cells : List Cell} {Q : TV → List Cell → Prop} (hc : c ≠ 47) (hl : l.length < 1000) (q : Q (.tup [.str "", .str "/", .str (S (c :: l))]) cells) :
    (ev G2 (n + 20)).c true (.fn "_splitroot") [.str (S (47 :: c :: l))] cells Q := by
  have hlim : (47 :: c :: l).length ≤ lim := by simp only [List.length_cons, lim]; omega
  refine cFn (f := f_split) (by kernel_rfl) (bindS (l := [("p", .str (S (47 :: c :: l)))]) (by kernel_rfl) (by kernel_rfl) (by kernel_rfl) ?_)
  walk_at "go"
  refine .slice ?_
  dsimp only [optE]
  walk_at "go"
  refine opt_some (sl_str (lo := none) (hi := some ((1 : Nat) : Int)) hlim rfl rfl) ?_
  rw [pick_take]
  walk_at "go"
  refine opt_some (a := false) (by rw [ne_str]; exact congrArg some (by kernel_rfl)) (ifF (by rfl) ?_)
  walk_at "go"
  refine .slice ?_
  dsimp only [optE]
  walk_at "go"
  refine opt_some (sl_str (lo := some ((1 : Nat) : Int)) (hi := some ((2 : Nat) : Int)) hlim rfl rfl) ?_
  rw [pick_mid]
  walk_at "go"
  refine opt_some (a := true) ?_ ?_
  · rw [ne_str, show Str.ofString "/" = S [47] by decide +kernel]
    simp [S, hc]
  walk_at "go"
  walk_at "go"
  walk_at "go"
  walk_at "sl"
  refine opt_some (sl_str (lo := some ((1 : Nat) : Int)) (hi := none) hlim rfl rfl) ?_
  rw [pick_drop]
  walk_at "go"
  exact ⟨by simp [lim], q⟩

section
open PySem PySem.W PyProof.Rows

theorem c_norm {n : Nat} {c : Nat} {l : List Nat} {cs : List Str} {cells : List Cell} {Q : TV → List Cell → Prop} (hc : c ≠ 47) (hl : l.length < 900) (hs : Txt.split (S (c :: l)) "/" = cs) (hj : Txt.join "/" cs = S (c :: l))
    (hcs : ∀ x ∈ cs, x.length ≠ 0 ∧ x ≠ "." ∧ x ≠ ".." ∧ x.length ≤ lim ∧ PyData.strOk x = true) (hn : cs.length ≤ 100) (hsum : (cs.map (·.length)).sum ≤ 4096) (hok : PyData.strOk (S (c :: l)) = true)
    (q : Q (.str (S (47 :: c :: l))) (cells ++ [.list (cs.map .str)])) : (ev G2 (n + 40)).c true (.fn "_normpath") [.str (S (47 :: c :: l))] cells Q := by
  have hlim : (47 :: c :: l).length ≤ lim := by simp only [List.length_cons, lim]; omega
  refine cFn (f := f_norm) (by kernel_rfl) (bindS (l := [("path", .str (S (47 :: c :: l)))]) (by kernel_rfl) (by kernel_rfl) (by kernel_rfl) ?_)
  walk_at "go"
  refine opt_some (a := true) (by rw [tr_str (by rw [S_len]; exact hlim), S_len]; rfl) ?_
  walk_at "go"
  walk_at "go"
  refine callF (by kernel_rfl) (c_split hc (by walk_at "om") ?_)
  refine AsgT'.tuple rfl ?_
  walk_at "go"
  refine opt_some m_split (mNo (by kernel_rfl) (by decide) (by kernel_rfl) ?_)
  walk_at "go"
  refine callG (.fn rfl (.split (by decide +kernel) (by rw [hs, List.all_eq_true]; exact fun x hx => (hcs x hx).2.2.2.2) (by rw [S_len]; simp only [List.length_cons]; omega) (by rw [hs]; walk_at "om"))) ?_
  rw [hs]
  walk_at "go"
  refine StepS'.asg (fun _ => by rfl) (newList ?_)
  walk_at "go"
  refine StepS'.for_ rfl (fun _ _ => by rfl) ?_
  walk_at "go"
  refine walkL (by simp only [List.length_map, lim]; omega) ?_
  refine for_inv (fun i es => ∃ loc, es = ⟨loc, cells ++ [.list ((cs.take i).map .str)]⟩ ∧ loc "dot" = some (.str ".") ∧ loc "dotdot" = some (.str "..") ∧ loc "new_comps" = some (.ref cells.length) ∧ loc "sep" = some (.str "/") ∧ loc "initial_slashes" = some (.str "/"))
    (fun i es _ => standsL (by simp only [List.length_map, lim]; omega)) ?hend ?step ⟨_, rfl, by walk_at "lk", by walk_at "lk", by walk_at "lk", by walk_at "lk", by walk_at "lk"⟩
  case step =>
    intro i x es hx hJ0 T hT1 hT2 _ _
    refine hide fun hG => ?_
    obtain ⟨loc, rfl, h1, h2, h3, h4, h5⟩ := hJ0
    refine hG ?_
    clear hG
    refine hide fun hG => ?_
    obtain ⟨y, hy, rfl⟩ := map_at hx
    refine hG ?_
    clear hG
    refine hide fun hG => ?_
    obtain ⟨g1, g2, g3, g4, g5⟩ := hcs y (List.mem_of_getElem? hy)
    refine hG ?_
    clear hG
    refine .name (sto (by kernel_rfl) ?_)
    walk_at "go"
    refine opt_some (a := true) (by rw [tr_str g4]; simp [g1]) (ifF (by rfl) ?_)
    walk_at "go"
    refine opt_some (a := false) (by rw [eq_str]; simp [g2]) (ifF (by rfl) ?_)
    walk_at "go"
    walk_at "go"
    walk_at "go"
    refine opt_some (a := true) (by rw [ne_str]; simp [g3]) (ifT (by rfl) (ifT (by rfl) ?_))
    walk_at "go"
    refine opt_some (m_append (at_last ..)) (mNo (by kernel_rfl) (by decide) (by kernel_rfl) ?_)
    walk_at "go"
    refine callG (.meth (.append (at_last ..) (by simp [lim]; omega))) ?_
    rw [set_last]
    walk_at "go"
    rw [take_map hy]
    refine hT1 _ ⟨_, rfl, by walk_at "lk", by walk_at "lk", by walk_at "lk", by walk_at "lk", by walk_at "lk"⟩
  case hend =>
    intro es hJ0
    refine hide fun hG => ?_
    obtain ⟨loc, rfl, h1, h2, h3, h4, h5⟩ := hJ0
    refine hG ?_
    clear hG
    rw [List.length_map, List.take_length]
    walk_at "go"
    refine opt_some m_join (mNo (by kernel_rfl) (by decide) (by kernel_rfl) ?_)
    walk_at "go"
    refine callG (.fn rfl (.join (xs := cs.map .str) (ss := cs) (v_list (at_last ..)) (strList_map cs) (by walk_at "om") (by decide +kernel) hsum (by rw [hj]; exact hok))) ?_
    rw [hj]
    walk_at "go"
    refine ⟨_, .adds (by rw [S_len]; show 1 + (c :: l).length ≤ lim; simp only [List.length_cons, lim]; omega), ?_⟩
    rw [show Str.ofString "/" = S [47] by decide +kernel, S_app]
    walk_at "go"
    refine opt_some (a := true) (by rw [tr_str (by rw [S_len]; exact hlim), S_len]; rfl) ?_
    walk_at "go"
    walk_at "go"
    refine callF (by kernel_rfl) (c_shelf (by simp only [List.cons_append, List.nil_append, List.length_cons, lim]; omega) ?_)
    walk_at "go"
    exact q
theorem c_normpath {n : Nat} {c : Nat} {l : List Nat} {cs : List Str} {cells : List Cell} {Q : TV → List Cell → Prop} (hc : c ≠ 47) (hl : l.length < 900) (hs : Txt.split (S (c :: l)) "/" = cs) (hj : Txt.join "/" cs = S (c :: l))
    (hcs : ∀ x ∈ cs, x.length ≠ 0 ∧ x ≠ "." ∧ x ≠ ".." ∧ x.length ≤ lim ∧ PyData.strOk x = true) (hn : cs.length ≤ 100) (hsum : (cs.map (·.length)).sum ≤ 4096) (hok : PyData.strOk (S (c :: l)) = true)
    (q : Q (.str (S (47 :: c :: l))) (cells ++ [.dict [] false] ++ [.list (cs.map .str)])) : (ev G2 (n + 60)).c true (.fn "normpath") [.str (S (47 :: c :: l))] cells Q := by
  refine cFn (f := f_normpath) (by kernel_rfl) (bindVK (l := []) (l' := [("args", .tup [.str (S (47 :: c :: l))]), ("kwargs", .ref cells.length)]) (a := "args") (k := "kwargs") (by kernel_rfl) (by kernel_rfl) (by kernel_rfl) (by kernel_rfl) ?_)
  walk_at "go"
  refine callF (by kernel_rfl) (c_cpath (at_last ..) ?_)
  walk_at "go"
  refine callF (by kernel_rfl) (c_norm hc hl hs hj hcs hn hsum hok ?_)
  walk_at "go"
  exact q
end

section
open PySem PySem.W PyProof.Rows

theorem set_hit {α : Type} {l : List α} {i : Nat} {x y : α} (h : l[i]? = some y) : (l.set i x)[i]? = some x := by
  rw [List.getElem?_set_self (List.getElem?_eq_some_iff.mp h).1]
theorem set_off {α : Type} {l : List α} {i j : Nat} {x : α} {o : Option α} (h : i ≠ j) (e : l[j]? = o) : (l.set i x)[j]? = o := by rw [List.getElem?_set_ne h]; exact e

/-- a reader -/
structure Rd (cells : List Cell) (k d m g : Nat) (ps : List Str) (b : Bool) (ig : List (Str × TV)) : Prop where
  ob : cells[k]? = some (.obj "_Ignore" d)
  ns : cells[d]? = some (.ns [("_mods", .ref m), ("_dirs", .list (ps.map .str)), ("_ignore", .ref g)])
  mo : cells[m]? = some (.set [] b)
  ig : cells[g]? = some (.dict ig false)
theorem Rd.km {cells k d m g ps b ig} (h : Rd cells k d m g ps b ig) : m ≠ k := by
  rintro rfl; have := h.ob; rw [h.mo] at this; cases this
theorem Rd.kg {cells k d m g ps b ig} (h : Rd cells k d m g ps b ig) : g ≠ k := by
  rintro rfl; have := h.ob; rw [h.ig] at this; cases this
theorem Rd.dm {cells k d m g ps b ig} (h : Rd cells k d m g ps b ig) : m ≠ d := by
  rintro rfl; have := h.ns; rw [h.mo] at this; cases this
theorem Rd.dg {cells k d m g ps b ig} (h : Rd cells k d m g ps b ig) : g ≠ d := by
  rintro rfl; have := h.ns; rw [h.ig] at this; cases this
theorem Rd.gm {cells k d m g ps b ig} (h : Rd cells k d m g ps b ig) : g ≠ m := by
  rintro rfl; have := h.mo; rw [h.ig] at this; cases this
theorem Rd.locked {cells k d m g ps b ig} (h : Rd cells k d m g ps b ig) : Rd (cells.set m (.set [] true)) k d m g ps true ig :=
  ⟨set_off h.km h.ob, set_off h.dm h.ns, set_hit h.mo, set_off h.gm.symm h.ig⟩
theorem Rd.put {cells k d m g ps b ig ig'} (h : Rd cells k d m g ps b ig) : Rd (cells.set g (.dict ig' false)) k d m g ps b ig' :=
  ⟨set_off h.kg h.ob, set_off h.dg h.ns, set_off h.gm h.mo, set_hit h.ig⟩
/-- what a reader's name finds -/
theorem Rd.attr {cells k d m g ps b ig} (h : Rd cells k d m g ps b ig) {a : Str} {v : TV} (ha : G2.attrOk "_Ignore" a = true) (hv : lookD [("_mods", .ref m), ("_dirs", .list (ps.map .str)), ("_ignore", .ref g)] a = some v) (hn : notG v = true) :
    attrTV G2 cells (.ref k) a = some v := by
  exact get_attr h.ob h.ns ha hv hn

/-- what the reader says of a file -/
noncomputable def inFold (ps : List Str) (f : Str) : Bool := ps.any fun p => Txt.startswith f (p ++ "/")
noncomputable def bit (b : Bool) : TV := .int (if b then 1 else 0)

theorem c_names_old {n : Nat} {cells : List Cell} {k d m g : Nat} {ps : List Str} {b : Bool} {ig : List (Str × TV)} {f : TV} {md : Str} {v : TV} {Q : TV → List Cell → Prop} (h : Rd cells k d m g ps b ig) (hv : lookD ig md = some v) (hr : frz v cells = (v, cells))
    (q : Q v cells) : (ev G2 (n + 30)).c true (.fn "_Ignore.names") [.ref k, f, .str md] cells Q := by
  refine cFn (f := f_igNames) (by kernel_rfl) (bindS (l := [("self", .ref k), ("filename", f), ("modulename", .str md)]) (by kernel_rfl) (by kernel_rfl) (by kernel_rfl) ?_)
  walk_at "go"
  refine opt_some (h.attr (by kernel_rfl) (by walk_at "lk") rfl) ?_
  walk_at "go"
  refine opt_some (a := true) (by rw [v_in h.ig rfl, hv]; rfl) (ifT (by rfl) ?_)
  walk_at "go"
  refine opt_some (h.attr (by kernel_rfl) (by walk_at "lk") rfl) ?_
  refine .item (fun _ _ => by rfl) ?_
  walk_at "go"
  refine opt_some (a := v) (v_item h.ig rfl hv) ?_
  walk_at "go"
  rw [hr]
  exact q
theorem c_names_new {n : Nat} {cells : List Cell} {k d m g : Nat} {ps : List Str} {b : Bool} {ig : List (Str × TV)} {f md : Str} {Q : TV → List Cell → Prop} (h : Rd cells k d m g ps b ig) (hv : lookD ig md = none) (hf : f.length ≤ lim) (hp : ∀ p ∈ ps, p.length ≠ 0 ∧ p.length < lim) (hn : ps.length ≤ lim) (hi : ig.length ≤ lim)
    (q : ∀ cells', Rd cells' k d m g ps true (putD ig md (bit (inFold ps f))) → (∀ i, i ≠ m → i ≠ g → cells'[i]? = cells[i]?) → Q (bit (inFold ps f)) cells') : (ev G2 (n + 30)).c true (.fn "_Ignore.names") [.ref k, .str f, .str md] cells Q := by
  have hl := h.locked
  have hput : ∀ v, (∀ i, i ≠ m → i ≠ g → ((cells.set m (.set [] true)).set g (.dict (putD ig md v) false))[i]? = cells[i]?) := fun v i h1 h2 => set_off h2.symm (set_off h1.symm rfl)
  refine cFn (f := f_igNames) (by kernel_rfl) (bindS (l := [("self", .ref k), ("filename", .str f), ("modulename", .str md)]) (by kernel_rfl) (by kernel_rfl) (by kernel_rfl) ?_)
  walk_at "go"
  refine opt_some (h.attr (by kernel_rfl) (by walk_at "lk") rfl) ?_
  walk_at "go"
  refine opt_some (a := false) (by rw [v_in h.ig rfl, hv]; rfl) (ifF (by rfl) ?_)
  walk_at "go"
  refine opt_some (h.attr (by kernel_rfl) (by walk_at "lk") rfl) ?_
  walk_at "go"
  refine opt_some (a := false) (v_inS h.mo rfl) (ifF (by rfl) ?_)
  walk_at "go"
  refine StepS'.for_ rfl (fun _ _ => by rfl) ?_
  walk_at "go"
  refine opt_some (h.attr (by kernel_rfl) (by walk_at "lk") rfl) ?_
  refine walkS h.mo ?_
  refine ⟨standsS hl.mo, ?_⟩
  walk_at "go"
  refine opt_some (a := false) rfl (ifF (by rfl) ?_)
  walk_at "go"
  refine StepS'.for_ rfl (fun _ _ => by rfl) ?_
  walk_at "go"
  refine opt_some (hl.attr (by kernel_rfl) (by walk_at "lk") rfl) ?_
  refine walkL (by rw [List.length_map]; exact hn) ?_
  refine for_inv (fun i es => ∃ loc, es = ⟨loc, cells.set m (.set [] true)⟩ ∧ loc "self" = some (.ref k) ∧ loc "filename" = some (.str f) ∧ loc "modulename" = some (.str md) ∧ (ps.take i).any (fun p => Txt.startswith f (p ++ "/")) = false)
    (fun i es _ => standsL (by rw [List.length_map]; exact hn)) ?hend ?step ⟨_, rfl, by walk_at "lk", by walk_at "lk", by walk_at "lk", rfl⟩
  case step =>
    intro i x es hx hJ0 T hT1 _ _ hT4
    refine hide fun hG => ?_
    obtain ⟨loc, rfl, h1, h2, h3, h4⟩ := hJ0
    refine hG ?_
    clear hG
    refine hide fun hG => ?_
    obtain ⟨y, hy, rfl⟩ := map_at hx
    refine hG ?_
    clear hG
    obtain ⟨g1, g2⟩ := hp y (List.mem_of_getElem? hy)
    refine .name (sto (by kernel_rfl) ?_)
    walk_at "go"
    refine opt_some m_starts (mNo (by kernel_rfl) (by decide) (by kernel_rfl) ?_)
    walk_at "go"
    refine ⟨_, .adds2 (by show y.length + 1 ≤ lim; omega) g1 (by decide +kernel), ?_⟩
    walk_at "go"
    refine callG (.fn rfl (.starts hf)) ?_
    cases hs : Txt.startswith f (y ++ "/") with
    | false =>
      refine opt_some (a := false) rfl (ifF (by rfl) ?_)
      walk_at "go"
      refine hT1 _ ⟨_, rfl, by walk_at "lk", by walk_at "lk", by walk_at "lk", by rw [take_step hy, List.any_append, h4]; simp [hs]⟩
    | true =>
      have hin : inFold ps f = true := List.any_eq_true.mpr ⟨y, List.mem_of_getElem? hy, hs⟩
      refine opt_some (a := true) rfl (ifT (by rfl) ?_)
      walk_at "go"
      refine opt_some (hl.attr (by kernel_rfl) (by walk_at "lk") rfl) ?_
      walk_at "go"
      refine opt_some (a := (cells.set m (.set [] true)).set g (.dict (putD ig md (.int 1)) false)) (v_set hl.ig rfl hi) ?_
      walk_at "go"
      rw [hin] at q
      exact hT4 _ _ (q _ hl.put (hput _))
  case hend =>
    intro es hJ0
    refine hide fun hG => ?_
    obtain ⟨loc, rfl, h1, h2, h3, h4⟩ := hJ0
    refine hG ?_
    clear hG
    have hin : inFold ps f = false := by rwa [List.length_map, List.take_length] at h4
    walk_at "go"
    refine opt_some (hl.attr (by kernel_rfl) (by walk_at "lk") rfl) ?_
    walk_at "go"
    refine opt_some (a := (cells.set m (.set [] true)).set g (.dict (putD ig md (.int 0)) false)) (v_set hl.ig rfl hi) ?_
    walk_at "go"
    rw [hin] at q
    exact q _ hl.put (hput _)
end

section
open PySem PySem.W PyProof.Rows

theorem at_app {α : Type} {l m : List α} {i : Nat} {x : α} (h : l[i]? = some x) : (l ++ m)[i]? = some x := by
  rw [List.getElem?_append_left (List.getElem?_eq_some_iff.mp h).1]; exact h
theorem at_lt {α : Type} {l : List α} {i : Nat} {x : α} (h : l[i]? = some x) : i < l.length := (List.getElem?_eq_some_iff.mp h).1
/-- a path that normpath leaves as it is -/
structure PathOk (p : Str) : Prop where
  ex : ∃ c l cs, p = S (47 :: c :: l) ∧ c ≠ 47 ∧ l.length < 900 ∧ Txt.split (S (c :: l)) "/" = cs ∧ Txt.join "/" cs = S (c :: l) ∧ (∀ x ∈ cs, x.length ≠ 0 ∧ x ≠ "." ∧ x ≠ ".." ∧ x.length ≤ lim ∧ PyData.strOk x = true) ∧ cs.length ≤ 100 ∧ (cs.map (·.length)).sum ≤ 4096 ∧ PyData.strOk (S (c :: l)) = true
theorem c_normp {n : Nat} {p : Str} {cells : List Cell} {Q : TV → List Cell → Prop} (h : PathOk p) (q : ∀ junk, Q (.str p) (cells ++ junk)) : (ev G2 (n + 60)).c true (.fn "normpath") [.str p] cells Q := by
  refine hide fun hG => ?_
  obtain ⟨c, l, cs, rfl, h1, h2, h3, h4, h5, h6, h7, h8⟩ := h.ex
  refine hG ?_
  clear hG
  exact c_normpath h1 h2 h3 h4 h5 h6 h7 h8 (by rw [List.append_assoc]; exact q _)

theorem set_attr {G : TG} {cells : List Cell} {k d : Nat} {c : Str} {kvs : List (Str × TV)} {a : Str} {v : TV} (h1 : cells[k]? = some (.obj c d)) (h2 : cells[d]? = some (.ns kvs)) (ha : G.attrOk c a = true) (hl : kvs.length ≤ 100) :
    SetA G cells (.ref k) a v (cells.set d (.ns (putD kvs a v))) := .obj h1 h2 ha hl

theorem c_ignore {n : Nat} {cells : List Cell} {ps : List Str} {Q : TV → List Cell → Prop} (hp : ∀ p ∈ ps, PathOk p) (hn : ps.length ≤ lim) (h0 : ps ≠ [])
    (q : ∀ (cells' : List Cell) (k d m g : Nat), Rd cells' k d m g ps false [("<string>", .int 1)] → (∀ (i : Nat) (c : Cell), cells[i]? = some c → cells'[i]? = some c) → cells.length ≤ m → cells.length ≤ g → Q (.ref k) cells') :
    (ev G2 (n + 90)).c true (.fn "_Ignore") [.list [], .list (ps.map .str)] cells Q := by
  refine cCls (i := "_Ignore.__init__") (by kernel_rfl) ?_
  refine cFn (f := f_igInit) (by kernel_rfl) (bindS (l := [("self", .ref (cells.length + 1)), ("modules", .list []), ("dirs", .list (ps.map .str))]) (by kernel_rfl) (by kernel_rfl) (by kernel_rfl) ?_)
  have a0 : (cells ++ [Cell.ns [], Cell.obj "_Ignore" cells.length])[cells.length]? = some (.ns []) := by simp
  have b0 : (cells ++ [Cell.ns [], Cell.obj "_Ignore" cells.length])[cells.length + 1]? = some (.obj "_Ignore" cells.length) := by simp
  have l0 : (cells ++ [Cell.ns [], Cell.obj "_Ignore" cells.length]).length = cells.length + 2 := by simp
  have o0 : ∀ i c, cells[i]? = some c → (cells ++ [Cell.ns [], Cell.obj "_Ignore" cells.length])[i]? = some c := fun i c h => at_app h
  generalize cells ++ [Cell.ns [], Cell.obj "_Ignore" cells.length] = c0 at *
  walk_at "go"
  refine opt_some (a := false) (by rw [tr_list (Nat.zero_le _)]; rfl) (ifT (by rfl) ?_)
  walk_at "go"
  refine callG .set ?_
  walk_at "go"
  refine ex_some (set_attr (at_app b0) (at_app a0) (by kernel_rfl) (by simp)) ?_
  have a1 : ((c0 ++ [Cell.set [] false]).set cells.length (.ns (putD [] "_mods" (.ref c0.length))))[cells.length]? = some (.ns [("_mods", .ref c0.length)]) := set_hit (at_app a0)
  have b1 : ((c0 ++ [Cell.set [] false]).set cells.length (.ns (putD [] "_mods" (.ref c0.length))))[cells.length + 1]? = some (.obj "_Ignore" cells.length) := set_off (by walk_at "om") (at_app b0)
  have m1 : ((c0 ++ [Cell.set [] false]).set cells.length (.ns (putD [] "_mods" (.ref c0.length))))[c0.length]? = some (.set [] false) := set_off (by walk_at "om") (at_last ..)
  have o1 : ∀ i c, cells[i]? = some c → ((c0 ++ [Cell.set [] false]).set cells.length (.ns (putD [] "_mods" (.ref c0.length))))[i]? = some c := fun i c h => set_off (by have := at_lt h; omega) (at_app (o0 i c h))
  generalize (c0 ++ [Cell.set [] false]).set cells.length (.ns (putD [] "_mods" (.ref c0.length))) = c1 at *
  walk_at "go"
  refine opt_some (a := true) (by rw [tr_list (by rw [List.length_map]; exact hn)]; simp [h0]) (ifF (by rfl) ?_)
  walk_at "go"
  refine ⟨rfl, by kernel_rfl, fun _ _ => by rfl, by kernel_rfl, by decide, ?_⟩
  walk_at "go"
  refine walkL (by rw [List.length_map]; exact hn) ?_
  refine gen_fm (fun x => some x) (fun es => ∃ loc junk, es = ⟨loc, c1 ++ junk⟩) (fun es _ => standsL (by rw [List.length_map]; exact hn)) ?step ⟨_, [], by rw [List.append_nil]⟩ (by rw [List.length_map]; exact hn) ?fin
  case step =>
    intro x hx es hJ0 T hT
    refine hide fun hG => ?_
    obtain ⟨loc, junk, rfl⟩ := hJ0
    refine hG ?_
    clear hG
    refine hide fun hG => ?_
    obtain ⟨y, hy, rfl⟩ := List.mem_map.mp hx
    refine hG ?_
    clear hG
    refine .name (sto (by kernel_rfl) ?_)
    walk_at "go"
    walk_at "go"
    walk_at "go"
    refine callF (by kernel_rfl) (c_normp (hp y hy) fun junk' => ?_)
    exact hT _ ⟨_, _, by rw [List.append_assoc]⟩
  case fin =>
    intro es hJ0
    refine hide fun hG => ?_
    obtain ⟨loc, junk, rfl⟩ := hJ0
    refine hG ?_
    clear hG
    refine ⟨by simp; exact hn, ?_⟩
    rw [List.filterMap_some]
    walk_at "go"
    refine ex_some (set_attr (at_app b1) (at_app a1) (by kernel_rfl) (by simp)) ?_
    have a2 : ((c1 ++ junk).set cells.length (.ns (putD [("_mods", .ref c0.length)] "_dirs" (.list (ps.map .str)))))[cells.length]? = some (.ns [("_mods", .ref c0.length), ("_dirs", .list (ps.map .str))]) := set_hit (at_app a1)
    have b2 : ((c1 ++ junk).set cells.length (.ns (putD [("_mods", .ref c0.length)] "_dirs" (.list (ps.map .str)))))[cells.length + 1]? = some (.obj "_Ignore" cells.length) := set_off (by walk_at "om") (at_app b1)
    have m2 : ((c1 ++ junk).set cells.length (.ns (putD [("_mods", .ref c0.length)] "_dirs" (.list (ps.map .str)))))[c0.length]? = some (.set [] false) := set_off (by walk_at "om") (at_app m1)
    have o2 : ∀ i c, cells[i]? = some c → ((c1 ++ junk).set cells.length (.ns (putD [("_mods", .ref c0.length)] "_dirs" (.list (ps.map .str)))))[i]? = some c := fun i c h => set_off (by have := at_lt h; omega) (at_app (o1 i c h))
    generalize (c1 ++ junk).set cells.length (.ns (putD [("_mods", .ref c0.length)] "_dirs" (.list (ps.map .str)))) = c2 at *
    walk_at "go"
    refine ex_some (set_attr (at_app b2) (at_app a2) (by kernel_rfl) (by simp)) ?_
    walk_at "go"
    have g2 : cells.length + 1 < c2.length := at_lt b2
    refine ⟨rfl, q _ _ cells.length c0.length c2.length ⟨set_off (by walk_at "om") (at_app b2), set_hit (at_app a2), set_off (by walk_at "om") (at_app m2), set_off (by walk_at "om") (at_last ..)⟩ (fun i c h => set_off (by have := at_lt h; omega) (at_app (o2 i c h))) (by walk_at "om") (by walk_at "om")⟩
end

section
open PySem PySem.W PyProof.Rows

theorem seqIx {i len : Nat} (h : i < len) : seqIndex? (i : Int) len = some i := by
  unfold seqIndex?
  simp only [show ¬ ((i : Int) < 0) by walk_at "om", if_false]
  rw [if_pos (by simp; omega)]
  simp
theorem seqIxNeg {len : Nat} (h : 0 < len) : seqIndex? (-1) len = some (len - 1) := by
  unfold seqIndex?
  simp only [show ((-1 : Int) < 0) by decide, if_true]
  rw [if_pos (by simp; omega)]
  congr 1; omega
theorem item_chr {cells : List Cell} {l : List Nat} {i : Int} {j c : Nat} (hl : l.length ≤ lim) (hi : seqIndex? i l.length = some j) (h : l[j]? = some c) : itemTV cells (.str (S l)) (.int i) = some (.str (S [c])) := by
  show ((if (S l).length ≤ lim then some () else none).bind fun _ => ((seqIndex? i (S l).length).bind ((S l).cps[·]?)).map fun c => TV.str ⟨#[c]⟩) = _
  rw [if_pos (show (S l).length ≤ lim from hl), S_len, hi]
  show ((S l).cps[j]?).map _ = _
  rw [show (S l).cps[j]? = some c from List.getElem?_toArray.trans h]
  rfl
theorem item_at {cells : List Cell} {o : TV} {xs : List TV} {x : TV} {i : Int} {j : Nat} (hd : dictTV cells o = none) (hs : strOf o = none) (hq : seqOfTV cells o = some xs) (hl : xs.length ≤ lim) (hi : seqIndex? i xs.length = some j) (h : xs[j]? = some x) : itemTV cells o (.int i) = some x := by
  unfold itemTV
  rw [hd]
  show itemInt cells o i = _
  unfold itemInt
  rw [hs]
  show ((seqOfTV cells o).bind fun xs => (if xs.length ≤ lim then some () else none).bind fun _ => (seqIndex? i xs.length).bind (xs[·]?)) = _
  rw [hq]
  show ((if xs.length ≤ lim then some () else none).bind fun _ => (seqIndex? i xs.length).bind (xs[·]?)) = _
  rw [if_pos hl]
  show (seqIndex? i xs.length).bind (xs[·]?) = _
  rw [hi]
  exact h
theorem last_at {α : Type} {l : List α} {x : α} (h : l.getLast? = some x) : 0 < l.length ∧ l[l.length - 1]? = some x := ⟨by cases l with | nil => cases h | cons => exact Nat.succ_pos _, (List.getLast?_eq_getElem? ..).symm.trans h⟩
theorem item_str {cells : List Cell} {l : List Nat} {i c : Nat} (h : l[i]? = some c) (hl : l.length ≤ lim) : itemTV cells (.str (S l)) (.int i) = some (.str (S [c])) := item_chr hl (seqIx (List.getElem?_eq_some_iff.mp h).1) h
theorem item_strNeg {cells : List Cell} {l : List Nat} {c : Nat} (h : l.getLast? = some c) (hl : l.length ≤ lim) : itemTV cells (.str (S l)) (.int (-1)) = some (.str (S [c])) := item_chr hl (seqIxNeg (last_at h).1) (last_at h).2
theorem dict_none {cells : List Cell} {k : Nat} {xs : List TV} (e : cells[k]? = some (.list xs)) : dictTV cells (.ref k) = none := congrArg cellD e
theorem item_cell {cells : List Cell} {k i : Nat} {xs : List TV} {x : TV} (e : cells[k]? = some (.list xs)) (h : xs[i]? = some x) (hl : xs.length ≤ lim) : itemTV cells (.ref k) (.int i) = some x := item_at (dict_none e) rfl (v_seq e) hl (seqIx (List.getElem?_eq_some_iff.mp h).1) h
theorem item_cellNeg {cells : List Cell} {k : Nat} {xs : List TV} {x : TV} (e : cells[k]? = some (.list xs)) (h : xs.getLast? = some x) (hl : xs.length ≤ lim) : itemTV cells (.ref k) (.int (-1)) = some x := item_at (dict_none e) rfl (v_seq e) hl (seqIxNeg (last_at h).1) (last_at h).2
theorem item_list {cells : List Cell} {i : Nat} {xs : List TV} {x : TV} (h : xs[i]? = some x) (hl : xs.length ≤ lim) : itemTV cells (.list xs) (.int i) = some x := item_at rfl rfl rfl hl (seqIx (List.getElem?_eq_some_iff.mp h).1) h

/-- what the table makes of a sign -/
noncomputable def trc (c : Nat) : Str := if c = 46 then S [92, 46] else S [c]
noncomputable def okc (c : Nat) : Bool := c == 97 || c == 98 || c == 47 || c == 46

theorem swap2 {env : Env} {a b : Str} {pa pb tp : Pos} {k k' : Nat} {c : Const} {k1 : Nat} {p1 p2 vp : Pos} {f : Expr} {args : List Expr} {kws : List Keyword} (hk : env.scope.kind = .function) (ha : env.kindOf a = some .local) (hb : env.kindOf b = some .local) (hl : pa.line = pb.line) (hne : (b == a) = false) :
    swappedStores [.Tuple [.Name a pa, .Name b pb] k tp] (.Tuple [.Constant c k1 p1, .Call f args kws p2] k' vp) env = pure (some [a, b]) := by
  have hbk : env.blockKind = .function := by unfold Env.blockKind; rw [hk]; rfl
  have e2 : [a, b].eraseDups = [a, b] := by simp [List.eraseDups_cons, hne]
  unfold swappedStores
  dsimp only
  rw [hbk]
  refine (if_neg (show ¬ false = true from Bool.false_ne_true)).trans ((if_neg (show ¬ false = true from Bool.false_ne_true)).trans ?_)
  rw [List.filterMap_cons_some (b := a) (by show (if (env.kindOf a == some .local && pa.line == pa.line) = true then some a else none) = some a; rw [ha, if_pos]; exact Bool.and_eq_true_iff.mpr ⟨rfl, beq_iff_eq.mpr rfl⟩),
    List.filterMap_cons_some (b := b) (by show (if (env.kindOf b == some .local && pb.line == pa.line) = true then some b else none) = some b; rw [hb, if_pos]; exact Bool.and_eq_true_iff.mpr ⟨rfl, beq_iff_eq.mpr hl.symm⟩), List.filterMap_nil, e2]
  exact (if_neg (show ¬ false = true from Bool.false_ne_true)).trans ((if_neg (show ¬ false = true from Bool.false_ne_true)).trans ((if_neg (show ¬ false = true from Bool.false_ne_true)).trans rfl))
theorem c_escape {n : Nat} {c : Nat} {cells : List Cell} {Q : TV → List Cell → Prop} (h : okc c = true) (q : Q (.str (trc c)) cells) : (ev G2 (n + 20)).c true (.fn "escape") [.str (S [c])] cells Q := by
  refine cFn (f := f_escape) (by kernel_rfl) (bindS (l := [("pattern", .str (S [c]))]) (by kernel_rfl) (by kernel_rfl) (by kernel_rfl) ?_)
  walk_at "go"
  refine callG (.fn rfl .isi) ?_
  refine opt_some (a := true) rfl (ifT (by rfl) ?_)
  walk_at "go"
  refine opt_some m_translate (mNo (by kernel_rfl) (by decide) (by kernel_rfl) ?_)
  walk_at "go"
  simp only [okc, Bool.or_eq_true, beq_iff_eq] at h
  rcases h with ((rfl | rfl) | rfl) | rfl
  · refine callG (.fn rfl (.keep (.inl (by decide +kernel)))) ?_; exact q
  · refine callG (.fn rfl (.keep (.inr (.inl (by decide +kernel))))) ?_; exact q
  · refine callG (.fn rfl (.keep (.inr (.inr (by decide +kernel))))) ?_; exact q
  · have e1 : S [46] = "." := by decide +kernel
    have e2 : trc 46 = "\\." := by decide +kernel
    rw [e1]
    rw [e2] at q
    refine callG (.fn rfl .dot) ?_; exact q

theorem tr_fact {l : List Nat} {star : Bool} (h : ∀ c ∈ l, okc c = true) (h0 : l ≠ []) {i c : Nat} (e : (l ++ if star then [42] else [])[i]? = some c) :
    (okc c = true ∧ (l.map trc ++ (if star then [S [42]] else []))[i]? = some (trc c)) ∨ (c = 42 ∧ (l.map trc ++ (if star then [S [42]] else []))[i]? = some (S [42]) ∧ ∃ d, okc d = true ∧ ((l.map trc ++ (if star then [S [42]] else [])).take i).getLast? = some (trc d)) := by
  by_cases hi : i < l.length
  · rw [List.getElem?_append_left hi] at e
    exact .inl ⟨h c (List.mem_of_getElem? e), by rw [List.getElem?_append_left (by simpa using hi), List.getElem?_map, e]; rfl⟩
  · rw [List.getElem?_append_right (by walk_at "om")] at e
    cases star with
    | false => simp at e
    | true =>
      simp only [if_true] at e ⊢
      have hi' : i = l.length := by
        have := (List.getElem?_eq_some_iff.mp e).1
        simp at this; omega
      subst hi'
      simp at e
      refine .inr ⟨e.symm, by rw [List.getElem?_append_right (by simp)]; simp, ?_⟩
      refine ⟨l.getLast h0, h _ (List.getLast_mem h0), ?_⟩
      rw [List.take_append_of_le_length (by simp), List.take_of_length_le (by simp), List.getLast?_map, List.getLast?_eq_some_getLast h0]; rfl
theorem trc_ne (d : Nat) (h : okc d = true) : trc d ≠ S [42] ∧ PyData.strOk (trc d) = true := by
  simp only [okc, Bool.or_eq_true, beq_iff_eq] at h
  rcases h with ((rfl | rfl) | rfl) | rfl <;> decide +kernel
theorem okc_ne (d : Nat) (h : okc d = true) : d ≠ 42 ∧ d ≠ 63 ∧ d ≠ 91 := by
  simp only [okc, Bool.or_eq_true, beq_iff_eq] at h
  omega

theorem c_translate {n : Nat} {l : List Nat} {star : Bool} {cells : List Cell} {Q : TV → List Cell → Prop} (h : ∀ c ∈ l, okc c = true) (h0 : l ≠ []) (hl : l.length < 900)
    (q : Q (.list ((l.map trc ++ (if star then [S [42]] else [])).map .str)) (cells ++ [.dead])) : (ev G2 (n + 60)).c true (.fn "_translate") [.str (S (l ++ if star then [42] else [])), .str "*", .str "?"] cells Q := by
  generalize hp : l ++ (if star then [42] else []) = pat at *
  have hlen : pat.length ≤ 1000 := by rw [← hp]; cases star <;> simp <;> omega
  have hlim : pat.length ≤ lim := by walk_at "om"
  refine cFn (f := f_translate) (by kernel_rfl) (bindS (l := [("pat", .str (S pat)), ("STAR", .str "*"), ("QUESTION_MARK", .str "?")]) (by kernel_rfl) (by kernel_rfl) (by kernel_rfl) ?_)
  walk_at "go"
  refine StepS'.asg (fun _ => by rfl) (newList ?_)
  walk_at "go"
  refine opt_some (a := .bm cells.length "list.append") (v_bm (at_last ..)) ?_
  walk_at "go"
  refine .disp rfl (by kernel_rfl) (by kernel_rfl) (fun env h1 h2 h3 => swap2 h1 h2 h3 rfl (by kernel_rfl)) ?_
  walk_at "go"
  refine callG (.fn rfl (.lenS (by rw [S_len]; exact hlim))) ?_
  walk_at "go"
  refine ⟨_, _, rfl, ?_⟩
  rw [S_len]
  walk_at "go"
  generalize ho : l.map trc ++ (if star then [S [42]] else []) = out at *
  have hlo : out.length = pat.length := by rw [← ho, ← hp]; cases star <;> simp
  have fact : ∀ i c, pat[i]? = some c → (okc c = true ∧ out[i]? = some (trc c)) ∨ (c = 42 ∧ out[i]? = some (S [42]) ∧ ∃ d, okc d = true ∧ (out.take i).getLast? = some (trc d)) := fun i c e => by
    rw [← hp] at e; rw [← ho]; exact tr_fact h h0 e
  refine .while_ ⟨fun k es => ∃ loc, ∃ (i : Nat) (j : Int), es = ⟨loc, cells ++ [.list ((out.take i).map .str)]⟩ ∧ k + i = pat.length ∧ j = i ∧ loc "i" = some (.int j) ∧ loc "n" = some (.int pat.length) ∧ loc "pat" = some (.str (S pat)) ∧ loc "res" = some (.ref cells.length) ∧
    loc "add" = some (.bm cells.length "list.append") ∧ loc "STAR" = some (.str "*") ∧ loc "QUESTION_MARK" = some (.str "?"), pat.length, ⟨_, 0, 0, rfl, rfl, rfl, by walk_at "lk", by walk_at "lk", by walk_at "lk", by walk_at "lk", by walk_at "lk", by walk_at "lk", by walk_at "lk"⟩, ?_⟩
  intro k es hJ0
  refine hide fun hG => ?_
  obtain ⟨loc, i, j, rfl, hk, rfl, h1, h2, h3, h4, h5, h6, h7⟩ := hJ0
  refine hG ?_
  clear hG
  unfold whileTurn
  walk_at "go"
  by_cases hi : i < pat.length
  · refine opt_some (a := true) (by show some (decide _) = _; simp [hi]) (ifT (by rfl) ?_)
    obtain ⟨c, hc⟩ : ∃ c, pat[i]? = some c := ⟨_, List.getElem?_eq_getElem hi⟩
    walk_at "go"
    refine .item (fun _ _ => by rfl) ?_
    walk_at "go"
    refine opt_some (item_str hc hlim) ?_
    walk_at "go"
    refine ⟨_, .add, ?_⟩
    walk_at "go"
    rcases fact i c hc with ⟨g1, g2⟩ | ⟨rfl, g2, d, g3, g4⟩
    · refine hide fun hG => ?_
      obtain ⟨n1, n2, n3⟩ := okc_ne c g1
      refine hG ?_
      clear hG
      refine opt_some (a := false) (by rw [eq_str, show Str.ofString "*" = S [42] by decide +kernel]; simp [S, n1]) (ifF (by rfl) ?_)
      walk_at "go"
      refine opt_some (a := false) (by rw [eq_str, show Str.ofString "?" = S [63] by decide +kernel]; simp [S, n2]) (ifF (by rfl) ?_)
      walk_at "go"
      refine opt_some (a := false) (by rw [eq_str, show Str.ofString "[" = S [91] by decide +kernel]; simp [S, n3]) (ifF (by rfl) ?_)
      walk_at "go"
      refine callF (by kernel_rfl) (c_escape g1 ?_)
      walk_at "go"
      refine callB (.bound (at_last ..) (by simp; omega)) ?_
      rw [set_last]
      walk_at "go"
      refine ⟨k - 1, by walk_at "om", _, i + 1, (i : Int) + 1, by rw [take_map g2], by walk_at "om", by walk_at "om", by walk_at "lk", by walk_at "lk", by walk_at "lk", by walk_at "lk", by walk_at "lk", by walk_at "lk", by walk_at "lk"⟩
    · have hne : (out.take i).map TV.str ≠ [] := fun e => by rw [List.map_eq_nil_iff] at e; rw [e] at g4; cases g4
      have hlm : ((out.take i).map TV.str).length ≤ lim := by simp only [List.length_map, List.length_take]; omega
      refine opt_some (a := true) (by rw [eq_str]; exact congrArg some (by kernel_rfl)) (ifT (by rfl) ?_)
      walk_at "go"
      refine opt_some (a := true) (by rw [tr_cell (at_last ..) hlm]; simpa using hne) (ifF (by rfl) ?_)
      walk_at "go"
      refine .item (fun _ _ => by rfl) ?_
      walk_at "go"
      refine ⟨_, rfl, ?_⟩
      refine opt_some (item_cellNeg (x := .str (trc d)) (at_last ..) (by rw [List.getLast?_map, g4]; rfl) hlm) ?_
      walk_at "go"
      refine opt_some (a := true) (by show (Option.map (!·) (if trc d = Str.ofString "*" then none else some false) : Option Bool) = _; rw [if_neg (by rw [show Str.ofString "*" = S [42] by decide +kernel]; exact (trc_ne d g3).1)]; rfl) (ifT (by rfl) (ifT (by rfl) ?_))
      walk_at "go"
      refine callB (.bound (at_last ..) (by simp; omega)) ?_
      have g2 : out[i]? = some (Str.ofString "*") := by rw [g2]; exact congrArg some (by decide +kernel)
      rw [set_last]
      walk_at "go"
      refine ⟨k - 1, by walk_at "om", _, i + 1, (i : Int) + 1, by rw [take_map g2], by walk_at "om", by walk_at "om", by walk_at "lk", by walk_at "lk", by walk_at "lk", by walk_at "lk", by walk_at "lk", by walk_at "lk", by walk_at "lk"⟩
  · refine opt_some (a := false) (by show some (decide _) = _; simp [hi]) (ifF (by rfl) ?_)
    walk_at "go"
    have hi' : i = pat.length := by walk_at "om"
    refine ⟨trivial, ?_⟩
    walk_at "go"
    refine opt_some (a := true) (by rw [eq_int, hi']; simp) ⟨rfl, ?_⟩
    walk_at "go"
    rw [hi', ← hlo, List.take_length]
    have hf : frz (.ref cells.length) (cells ++ [.list (out.map .str)]) = (.list (out.map .str), cells ++ [.dead]) := (frz_L (at_last ..)).trans (by rw [set_last])
    rw [hf]
    exact q
end

section
open PySem PySem.W PyProof.Rows

theorem toPys_map {α : Type} {cells : List Cell} {f : α → TV} {p : α → PyData} (h : ∀ a, toPy cells (f a) = some (p a)) (l : List α) : toPys cells (l.map f) = some (l.map p) := by
  induction l with
  | nil => rfl
  | cons a l ih =>
    show ((toPy cells (f a)).bind fun x => (toPys cells (l.map f)).map (x :: ·)) = _
    rw [ih, h]
    rfl
theorem toPys_int {cells : List Cell} (l : List Int) : toPys cells (l.map .int) = some (l.map .int) := toPys_map (fun _ => rfl) l
theorem toPys_str {cells : List Cell} (l : List Str) : toPys cells (l.map .str) = some (l.map .str) := toPys_map (fun _ => rfl) l
theorem in_py {cells : List Cell} {a : TV} {xs : List TV} {ds : List PyData} {d : PyData} (hl : toPys cells xs = some ds) (ha : pyOf cells a = some d) (h : PyData.depthAll ds ≤ 60 ∧ xs.length ≤ lim) : inList cells a xs = some (ds.any fun x => PyData.eqv x d) := by
  unfold inList
  rw [hl, ha]
  exact if_pos h
theorem depth_int (l : List Int) : PyData.depthAll (l.map .int) = 0 := by
  induction l with
  | nil => rfl
  | cons a l ih => simp [PyData.depthAll, PyData.depth, ih]
theorem depth_str (l : List Str) : PyData.depthAll (l.map .str) = 0 := by
  induction l with
  | nil => rfl
  | cons a l ih => simp [PyData.depthAll, PyData.depth, ih]
theorem in_int {cells : List Cell} {l : List Int} {i : Int} (h : l.length ≤ lim) : cmpTV cells .In (.int i) (.list (l.map .int)) = some (l.contains i) := by
  show inList cells (.int i) (l.map .int) = _
  refine (in_py (toPys_int l) rfl ⟨by rw [depth_int]; exact Nat.zero_le _, by rw [List.length_map]; exact h⟩).trans ?_
  congr 1
  rw [List.any_map]
  induction l with
  | nil => rfl
  | cons a l ih =>
    simp only [List.length_cons] at h
    simp only [List.any_cons, List.contains_cons, Function.comp, PyData.eqv]
    rw [ih (by walk_at "om")]
    congr 1
    rw [Bool.eq_iff_iff, beq_iff_eq, beq_iff_eq]; exact eq_comm
theorem in_str {cells : List Cell} {l : List Str} {x : Str} (h : l.length ≤ lim) : cmpTV cells .In (.str x) (.list (l.map .str)) = some (l.contains x) := by
  show inList cells (.str x) (l.map .str) = _
  refine (in_py (toPys_str l) rfl ⟨by rw [depth_str]; exact Nat.zero_le _, by rw [List.length_map]; exact h⟩).trans ?_
  congr 1
  rw [List.any_map]
  induction l with
  | nil => rfl
  | cons a l ih =>
    simp only [List.length_cons] at h
    simp only [List.any_cons, List.contains_cons, Function.comp, PyData.eqv]
    rw [ih (by walk_at "om")]
    congr 1
    rw [Bool.eq_iff_iff, beq_iff_eq, beq_iff_eq]; exact eq_comm

/-- what is reached -/
noncomputable def rch (l m : List Nat) (i : Nat) : List Int := if (l.take i).isPrefixOf m then [(i : Int)] else []
theorem rch_step {l m : List Nat} {i c : Nat} (h : l[i]? = some c) : rch l m (i + 1) = (rch l m i).filterMap fun j => if m[j.toNat]? = some c then some (j + 1) else none := by
  have hlen : (l.take i).length = i := by rw [List.length_take]; have := (List.getElem?_eq_some_iff.mp h).1; omega
  have key : (l.take (i + 1)).isPrefixOf m = ((l.take i).isPrefixOf m && decide (m[i]? = some c)) := by
    rw [take_step h, Bool.eq_iff_iff]
    simp only [Bool.and_eq_true, decide_eq_true_eq, List.isPrefixOf_iff_prefix]
    constructor
    · rintro ⟨t, rfl⟩
      refine ⟨⟨[c] ++ t, by simp⟩, ?_⟩
      rw [List.append_assoc, List.getElem?_append_right (by walk_at "om"), hlen, Nat.sub_self]; rfl
    · intro hJ0
      refine hide fun hG => ?_
      obtain ⟨⟨t, rfl⟩, e⟩ := hJ0
      refine hG ?_
      clear hG
      rw [List.getElem?_append_right (by walk_at "om"), hlen, Nat.sub_self] at e
      cases t with
      | nil => cases e
      | cons d t => simp at e; subst e; exact ⟨t, by simp⟩
  unfold rch
  rw [key]
  cases hp : (l.take i).isPrefixOf m with
  | false => simp
  | true =>
    simp only [Bool.true_and, decide_eq_true_eq, if_true, List.filterMap_cons, List.filterMap_nil, Int.toNat_natCast]
    split <;> simp_all
noncomputable def takesB (star : Bool) (l m : List Nat) : Bool := if star then l.isPrefixOf m else l == m

theorem ps_fact {l : List Nat} {star : Bool} {i : Nat} {y : Str} (e : (l.map trc ++ (if star then [S [42]] else []))[i]? = some y) : (∃ c, l[i]? = some c ∧ y = trc c) ∨ (i = l.length ∧ star = true ∧ y = S [42]) := by
  by_cases hi : i < l.length
  · rw [List.getElem?_append_left (by simpa using hi)] at e
    refine hide fun hG => ?_
    obtain ⟨c, hc, rfl⟩ := map_at e
    refine hG ?_
    clear hG
    exact .inl ⟨c, hc, rfl⟩
  · rw [List.getElem?_append_right (by simp; omega)] at e
    cases star with
    | false => simp at e
    | true =>
      simp only [if_true] at e
      have := (List.getElem?_eq_some_iff.mp e).1
      simp only [List.length_map, List.length_singleton] at this
      have hi' : i = l.length := by walk_at "om"
      subst hi'
      simp at e
      exact .inr ⟨rfl, rfl, e.symm⟩
theorem frzs_map {α : Type} {cells : List Cell} {f : α → TV} (h : ∀ a, frz (f a) cells = (f a, cells)) (l : List α) : frzs (l.map f) cells = (l.map f, cells) := by
  induction l with
  | nil => rfl
  | cons a l ih =>
    show ((frz (f a) cells).1 :: (frzs (l.map f) (frz (f a) cells).2).1, (frzs (l.map f) (frz (f a) cells).2).2) = _
    rw [h, ih]
    rfl
theorem frzs_int {cells : List Cell} (l : List Int) : frzs (l.map .int) cells = (l.map .int, cells) := frzs_map (fun _ => rfl) l
theorem frzs_str {cells : List Cell} (l : List Str) : frzs (l.map .str) cells = (l.map .str, cells) := frzs_map (fun _ => rfl) l
theorem trc_in (c : Nat) (h : okc c = true) : trc c ≠ "*" ∧ ([(".") , "?"] : List Str).contains (trc c) = false ∧ ∃ q, trc c = S q ∧ q.getLast? = some c ∧ q.length ≤ 2 := by
  simp only [okc, Bool.or_eq_true, beq_iff_eq] at h
  rcases h with ((rfl | rfl) | rfl) | rfl
  · exact ⟨by decide +kernel, by decide +kernel, [97], rfl, rfl, by decide⟩
  · exact ⟨by decide +kernel, by decide +kernel, [98], rfl, rfl, by decide⟩
  · exact ⟨by decide +kernel, by decide +kernel, [47], rfl, rfl, by decide⟩
  · exact ⟨by decide +kernel, by decide +kernel, [92, 46], rfl, rfl, by decide⟩
theorem takes_end {l m : List Nat} : (rch l m l.length).contains (m.length : Int) = (l == m) := by
  unfold rch
  rw [List.take_length]
  cases hp : l.isPrefixOf m with
  | false =>
    simp only [Bool.false_eq_true, if_false, List.contains_nil]
    symm; rw [beq_eq_false_iff_ne]
    rintro rfl
    rw [List.isPrefixOf_iff_prefix.mpr (List.prefix_refl _)] at hp; cases hp
  | true =>
    simp only [if_true]
    rw [Bool.eq_iff_iff, beq_iff_eq]
    simp only [List.contains_cons, List.contains_nil, Bool.or_false, beq_iff_eq]
    constructor
    · intro e
      exact (List.isPrefixOf_iff_prefix.mp hp).eq_of_length (by walk_at "om")
    · rintro rfl; rfl
theorem ne_nil {cells : List Cell} (l : List Int) : cmpTV cells .NotEq (.list (l.map .int)) (.list []) = some (!l.isEmpty) := by
  have e : ∀ l : List Int, PyData.eqvAll (l.map .int) [] = l.isEmpty := fun l => by cases l <;> rfl
  have z : eqTV cells (.list (l.map .int)) (.list []) = some l.isEmpty := by
    have ha : pyOf cells (.list (l.map TV.int)) = some (.list (l.map PyData.int)) := by
      show (toPys cells (l.map TV.int)).map PyData.list = _
      rw [toPys_int]
      rfl
    refine (eq_py (y := .list []) ha rfl ⟨?_, ?_⟩).trans ?_
    · simp [PyData.depth, depth_int]
    · simp [PyData.depth, PyData.depthAll]
    · rw [PyData.eqv, e]
  exact congrArg (Option.map (!·)) z
theorem range_from {a b : Nat} (h : a ≤ b) (hb : b ≤ 1000) : Builtin.Range.small (a : Int) ((b : Int) + 1) 1 = true ∧ 0 ≤ Builtin.Range.rangeSize (a : Int) ((b : Int) + 1) 1 ∧ Builtin.Range.rangeSize (a : Int) ((b : Int) + 1) 1 = ((b + 1 - a : Nat) : Int) := by
  have e : Builtin.Range.rangeSize (a : Int) ((b : Int) + 1) 1 = ((b + 1 - a : Nat) : Int) := by
    unfold Builtin.Range.rangeSize
    rw [if_pos (by decide), if_pos (by walk_at "om")]
    omega
  refine ⟨?_, by rw [e]; omega, e⟩
  unfold Builtin.Range.small
  rw [e]
  have f : ∀ i : Int, -10000 ≤ i → i ≤ 10000 → Builtin.Range.rangeFitsLong i = true := fun i h1 h2 => by
    unfold Builtin.Range.rangeFitsLong
    rw [Bool.and_eq_true]
    exact ⟨decide_eq_true (by walk_at "om"), decide_eq_true (by walk_at "om")⟩
  rw [f _ (by walk_at "om") (by walk_at "om"), f _ (by walk_at "om") (by walk_at "om"), f _ (by walk_at "om") (by walk_at "om"), f _ (by walk_at "om") (by walk_at "om")]
  rw [if_pos (by decide), f _ (by walk_at "om") (by walk_at "om")]
  simp
theorem c_takes {n : Nat} {l m : List Nat} {star : Bool} {cells : List Cell} {Q : TV → List Cell → Prop} (h : ∀ c ∈ l, okc c = true) (hl : l.length < 900) (hm : m.length < 900)
    (q : Q (.bool (takesB star l m)) cells) : (ev G2 (n + 60)).c true (.fn "_law_takes") [.list ((l.map trc ++ (if star then [S [42]] else [])).map .str), .str (S m)] cells Q := by
  generalize hp : (l.map trc ++ (if star then [S [42]] else [])) = ps at *
  have hlen : ps.length ≤ 1000 := by rw [← hp]; cases star <;> simp <;> omega
  have hlim : ps.length ≤ lim := by walk_at "om"
  have hmlim : m.length ≤ lim := by walk_at "om"
  refine cFn (f := f_takes) (by kernel_rfl) (bindS (l := [("parts", .list (ps.map .str)), ("name", .str (S m))]) (by kernel_rfl) (by kernel_rfl) (by kernel_rfl) ?_)
  walk_at "go"
  refine ⟨by simp [lim], ?_⟩
  have hz : frzs [TV.int 0] cells = ([TV.int 0], cells) := rfl
  dsimp only
  rw [hz]
  walk_at "go"
  refine .for_ rfl (fun _ _ => by rfl) ?_
  walk_at "go"
  refine walkL (by rw [List.length_map]; exact hlim) ?_
  refine for_inv (fun i es => ∃ loc R, es = ⟨loc, cells⟩ ∧ loc "name" = some (.str (S m)) ∧ loc "reach" = some (.list ((R : List Int).map .int)) ∧ R.length ≤ 1000 ∧ (i ≤ l.length → R = rch l m i) ∧ (l.length < i → R.contains (m.length : Int) = l.isPrefixOf m))
    (fun i es _ => standsL (by rw [List.length_map]; exact hlim)) ?hend ?step ⟨_, [0], rfl, by walk_at "lk", (show (_ : Option TV) = some (TV.list [TV.int 0]) by walk_at "lk"), by simp, fun _ => rfl, fun h => by walk_at "om"⟩
  case hend =>
    intro es hJ0
    refine hide fun hG => ?_
    obtain ⟨loc, R, rfl, h1, h2, h3, h4, h5⟩ := hJ0
    refine hG ?_
    clear hG
    rw [List.length_map] at h4 h5
    walk_at "go"
    refine callG (.fn rfl (.lenS (by rw [S_len]; exact hmlim))) ?_
    rw [S_len]
    walk_at "go"
    refine opt_some (in_int (by walk_at "om")) ?_
    walk_at "go"
    have e : R.contains (m.length : Int) = takesB star l m := by
      cases star with
      | true => rw [h5 (by rw [← hp]; simp)]; rfl
      | false =>
        have : ps.length = l.length := by rw [← hp]; simp
        rw [h4 (by walk_at "om"), this, takes_end]; rfl
    rw [e]
    exact q
  case step =>
    intro i x es hx hJ0 T hT1 _ _ _
    refine hide fun hG => ?_
    obtain ⟨loc, R, rfl, h1, h2, h3, h4, h5⟩ := hJ0
    refine hG ?_
    clear hG
    refine hide fun hG => ?_
    obtain ⟨y, hy, rfl⟩ := map_at hx
    refine hG ?_
    clear hG
    refine .name (sto (by kernel_rfl) ?_)
    walk_at "go"
    rw [← hp] at hy
    rcases ps_fact hy with ⟨c, hc, rfl⟩ | ⟨rfl, rfl, rfl⟩
    · refine hide fun hG => ?_
      obtain ⟨g1, g2, r, g3, g4, g5⟩ := trc_in c (h c (List.mem_of_getElem? hc))
      refine hG ?_
      clear hG
      have hi := (List.getElem?_eq_some_iff.mp hc).1
      refine opt_some (a := false) (by rw [eq_str]; simpa using g1) (ifF (by rfl) ?_)
      walk_at "go"
      refine .asg (fun _ => by rfl) (.comp ⟨rfl, by kernel_rfl, fun _ _ => by rfl, by kernel_rfl, by decide, ?_⟩)
      walk_at "go"
      have hR : R = rch l m i := h4 (by walk_at "om")
      have hRl : (R.map TV.int).length ≤ lim := by rw [List.length_map]; walk_at "om"
      refine walkL hRl ?_
      refine gen_fm (fun x => match x with | .int j => if m[j.toNat]? = some c then some (.int (j + 1)) else none | _ => none) (fun es => ∃ loc', es = ⟨loc', cells⟩ ∧ loc' "name" = some (.str (S m)) ∧ loc' "part" = some (.str (trc c)))
        (fun es _ => standsL hRl) ?step2 ⟨_, rfl, by walk_at "lk", by walk_at "lk"⟩ hRl ?fin
      case step2 =>
        intro x hx' es hJ0 T' hT'
        refine hide fun hG => ?_
        obtain ⟨loc', rfl, k1, k2⟩ := hJ0
        refine hG ?_
        clear hG
        refine hide fun hG => ?_
        obtain ⟨j, hj, rfl⟩ := List.mem_map.mp hx'
        refine hG ?_
        clear hG
        have hj' : j = (i : Int) := by
          rw [hR] at hj
          unfold rch at hj
          split at hj
          · simpa using hj
          · cases hj
        subst hj'
        simp only [Int.toNat_natCast] at hT'
        refine .name (sto (by kernel_rfl) ?_)
        walk_at "go"
        refine callG (.fn rfl (.lenS (by rw [S_len]; exact hmlim))) ?_
        rw [S_len]
        by_cases hlt : i < m.length
        · obtain ⟨d, hd⟩ : ∃ d, m[i]? = some d := ⟨_, List.getElem?_eq_getElem hlt⟩
          refine opt_some (a := true) (by show some (decide _) = _; simp [hlt]) (ifT (by rfl) ?_)
          walk_at "go"
          refine ⟨by simp [lim], ?_⟩
          have hz2 : frzs [TV.str ".", TV.str "?"] cells = ([TV.str ".", TV.str "?"], cells) := rfl
          dsimp only
          rw [hz2]
          refine opt_some (a := false) (by rw [← g2]; exact in_str (l := [".", "?"]) (by simp [lim])) (ifF (by rfl) ?_)
          walk_at "go"
          refine .item (fun _ _ => by rfl) ?_
          walk_at "go"
          refine opt_some (item_str hd hmlim) ?_
          walk_at "go"
          refine .item (fun _ _ => by rfl) ?_
          walk_at "go"
          refine ⟨_, rfl, ?_⟩
          refine opt_some (a := .str (S [c])) (by rw [g3]; exact item_strNeg g4 (by walk_at "om")) ?_
          by_cases hdc : d = c
          · subst hdc
            refine opt_some (a := true) (by rw [eq_str]; simp) ?_
            walk_at "go"
            walk_at "go"
            refine ⟨_, .add, ?_⟩
            simp only [hd, if_true] at hT'
            exact hT' _ ⟨_, rfl, by walk_at "lk", by walk_at "lk"⟩
          · refine opt_some (a := false) (by rw [eq_str]; simp [S_inj, hdc]) (ifF (by rfl) ?_)
            walk_at "go"
            simp only [hd, Option.some.injEq, hdc, if_false] at hT'
            exact hT' _ ⟨_, rfl, by walk_at "lk", by walk_at "lk"⟩
        · have hd : m[i]? = none := List.getElem?_eq_none (by walk_at "om")
          refine opt_some (a := false) (by show some (decide _) = _; simp [hlt]) ?_
          walk_at "go"
          simp only [hd, reduceCtorEq, if_false] at hT'
          exact hT' _ ⟨_, rfl, by walk_at "lk", by walk_at "lk"⟩
      case fin =>
        intro es hJ0
        refine hide fun hG => ?_
        obtain ⟨loc', rfl, k1, k2⟩ := hJ0
        refine hG ?_
        clear hG
        have ef : (R.map TV.int).filterMap (fun x => match x with | .int j => if m[j.toNat]? = some c then some (.int (j + 1)) else none | _ => none) = (rch l m (i + 1)).map TV.int := by
          rw [rch_step hc, ← hR, List.filterMap_map, List.map_filterMap]
          congr 1
          funext j
          simp only [Function.comp]
          split <;> rfl
        rw [ef]
        have hr1 : (rch l m (i + 1)).length ≤ 1 := by unfold rch; split <;> simp
        refine ⟨by rw [List.length_map]; walk_at "om", ?_⟩
        walk_at "go"
        exact hT1 _ ⟨_, _, rfl, by walk_at "lk", by walk_at "lk", by walk_at "om", fun _ => rfl, fun hh => by walk_at "om"⟩
    · refine opt_some (a := true) (by rw [eq_str]; exact congrArg some (by kernel_rfl)) (ifT (by rfl) ?_)
      walk_at "go"
      have hR : R = rch l m l.length := h4 (Nat.le_refl _)
      unfold rch at hR
      rw [List.take_length] at hR
      refine ⟨by simp, ?_⟩
      cases hpre : l.isPrefixOf m with
      | false =>
        rw [hpre] at hR h5 hT1
        have hR : R = [] := hR
        subst hR
        refine opt_some (a := false) (ne_nil []) ?_
        walk_at "go"
        refine ⟨by simp, ?_⟩
        walk_at "go"
        exact hT1 _ ⟨_, [], rfl, by walk_at "lk", by exact upd_hit, by simp, fun hh => by walk_at "om", fun _ => rfl⟩
      | true =>
        rw [hpre] at hR h5 hT1
        have hR : R = [(l.length : Int)] := hR
        subst hR
        have hle : l.length ≤ m.length := (List.isPrefixOf_iff_prefix.mp hpre).length_le
        refine hide fun hG => ?_
        obtain ⟨s1, s2, s3⟩ := range_from hle (by walk_at "om")
        refine hG ?_
        clear hG
        refine opt_some (a := true) (ne_nil [_]) ?_
        walk_at "go"
        refine .item (fun _ _ => by rfl) ?_
        walk_at "go"
        refine opt_some (a := .int l.length) rfl ?_
        walk_at "go"
        refine callG (.fn rfl (.lenS (by rw [S_len]; exact hmlim))) ?_
        rw [S_len]
        walk_at "go"
        refine ⟨_, .add, ?_⟩
        walk_at "go"
        refine callG (.type rfl .range2) ?_
        walk_at "go"
        refine callG (.type rfl (.list s1 s2 (by rw [s3]; walk_at "om"))) ?_
        walk_at "go"
        have er : rangeL (l.length : Int) ((m.length : Int) + 1) 1 = ((List.range (m.length + 1 - l.length)).map fun (i : Nat) => (l.length : Int) + (i : Int) * 1).map TV.int := by
          unfold rangeL
          rw [s3, Int.toNat_natCast, List.map_map]; rfl
        rw [er]
        refine hT1 _ ⟨_, _, rfl, by walk_at "lk", by walk_at "lk", by simp; omega, fun hh => by walk_at "om", fun _ => ?_⟩
        rw [List.contains_iff_mem, List.mem_map]
        exact ⟨m.length - l.length, by simp; omega, by walk_at "om"⟩
end

section
open PySem PySem.W PyProof.Rows

/-- a node, its info's place, its successors' place -/
structure Nd where
  v : Str
  a : Nat
  b : Nat
noncomputable abbrev infCell (v : Str) (c : Int) (b : Nat) : Cell := .slots "_NodeInfo" [some (.str v), some (.int c), some (.ref b)]

theorem set_slot {G : TG} {cells : List Cell} {k i : Nat} {c a : Str} {vs : List (Option TV)} {v : TV} (h1 : cells[k]? = some (.slots c vs)) (ha : G.slotOf c a = some i) (hl : i < vs.length) :
    SetA G cells (.ref k) a v (cells.set k (.slots c (vs.set i (some v)))) := .slot h1 ha hl

/-- a new node's info: two new cells -/
theorem c_ninfo {n : Nat} {v : Str} {cells : List Cell} {Q : TV → List Cell → Prop} (q : Q (.ref cells.length) (cells ++ [infCell v 0 (cells.length + 1), .list []])) : (ev G2 (n + 30)).c true (.fn "_NodeInfo") [.str v] cells Q := by
  refine cSlot (i := "_NodeInfo.__init__") (ns := ["node", "npredecessors", "successors"]) (by kernel_rfl) ?_
  refine cFn (f := f_niInit) (by kernel_rfl) (bindS (l := [("self", .ref cells.length), ("node", .str v)]) (by kernel_rfl) (by kernel_rfl) (by kernel_rfl) ?_)
  walk_at "go"
  refine ex_some (set_slot (i := 0) (at_last ..) (by kernel_rfl) (by decide)) ?_
  rw [set_last]
  walk_at "go"
  refine ex_some (set_slot (i := 1) (at_last ..) (by kernel_rfl) (by simp)) ?_
  rw [set_last]
  walk_at "go"
  refine .asg (fun _ => by rfl) (newList ?_)
  walk_at "go"
  have e1 : (cells ++ [Cell.slots "_NodeInfo" ((((["node", "npredecessors", "successors"] : List Str).map fun _ => (none : Option TV)).set 0 (some (.str v))).set 1 (some (.int 0)))]).length = cells.length + 1 := by simp
  refine ex_some (set_slot (i := 2) (at_app (at_last ..)) (by kernel_rfl) (by simp)) ?_
  rw [e1]
  walk_at "go"
  refine ⟨rfl, ?_⟩
  have e2 : ∀ (x y z : Cell), (cells ++ [x] ++ [y]).set cells.length z = cells ++ [z, y] := fun x y z => by simp
  rw [e2]
  exact q

/-- the sorter's table, its nodes' infos and successors -/
structure Gr (cells : List Cell) (m : Nat) (nodes : List Nd) (cnt : Str → Int) (suc : Str → List Str) (lk : Bool) : Prop where
  dict : cells[m]? = some (.dict (nodes.map fun x => (x.v, TV.ref x.a)) lk)
  inf : ∀ x ∈ nodes, cells[x.a]? = some (infCell x.v (cnt x.v) x.b)
  suc : ∀ x ∈ nodes, cells[x.b]? = some (.list ((suc x.v).map .str))
  binj : ∀ x ∈ nodes, ∀ y ∈ nodes, x.b = y.b → x.v = y.v
  nd : (nodes.map (·.v)).Nodup

theorem lookD_none {kvs : List (Str × TV)} {k : Str} (h : ∀ p ∈ kvs, p.1 ≠ k) : lookD kvs k = none := by
  induction kvs with
  | nil => rfl
  | cons p l ih => exact (if_neg (h p (.head _))).trans (ih fun q hq => h q (.tail _ hq))
theorem putD_new {kvs : List (Str × TV)} {k : Str} {v : TV} (h : ∀ p ∈ kvs, p.1 ≠ k) : putD kvs k v = kvs ++ [(k, v)] := by
  induction kvs with
  | nil => rfl
  | cons p l ih => exact (if_neg (h p (.head _))).trans (congrArg (p :: ·) (ih fun q hq => h q (.tail _ hq)))
theorem lookD_mem {nodes : List Nd} (hn : (nodes.map (·.v)).Nodup) {x : Nd} (h : x ∈ nodes) : lookD (nodes.map fun x => (x.v, TV.ref x.a)) x.v = some (.ref x.a) := by
  induction nodes with
  | nil => cases h
  | cons y l ih =>
    rw [List.map_cons, List.nodup_cons] at hn
    rw [List.map_cons]
    rcases List.mem_cons.mp h with rfl | h
    · exact lookD_hit
    · refine lookD_miss ?_ (ih hn.2 h)
      rw [beq_eq_false_iff_ne]
      intro e
      exact hn.1 (e ▸ List.mem_map.mpr ⟨x, h, rfl⟩)

theorem Gr.grow {cells : List Cell} {m : Nat} {nodes : List Nd} {cnt : Str → Int} {suc : Str → List Str} {v : Str} (g : Gr cells m nodes cnt suc false) (hv : v ∉ nodes.map (·.v)) (hc : cnt v = 0) (hs : suc v = []) :
    Gr ((cells ++ [infCell v 0 (cells.length + 1), Cell.list []]).set m (.dict (nodes.map (fun x => (x.v, TV.ref x.a)) ++ [(v, .ref cells.length)]) false)) m (nodes ++ [⟨v, cells.length, cells.length + 1⟩]) cnt suc false := by
  have hm : m < cells.length := at_lt g.dict
  have ga : ∀ x ∈ nodes, m ≠ x.a := fun x hx e => by have := g.dict; rw [e, g.inf x hx] at this; cases this
  have gb : ∀ x ∈ nodes, m ≠ x.b := fun x hx e => by have := g.dict; rw [e, g.suc x hx] at this; cases this
  refine ⟨?_, ?_, ?_, ?_, ?_⟩
  · rw [List.map_append]; exact set_hit (at_app g.dict)
  · intro x hx
    rcases List.mem_append.mp hx with hx | hx
    · exact set_off (ga x hx) (at_app (g.inf x hx))
    · rcases List.mem_singleton.mp hx with rfl
      exact set_off (by show m ≠ cells.length; omega) (by rw [hc]; simp)
  · intro x hx
    rcases List.mem_append.mp hx with hx | hx
    · exact set_off (gb x hx) (at_app (g.suc x hx))
    · rcases List.mem_singleton.mp hx with rfl
      exact set_off (by show m ≠ cells.length + 1; omega) (by rw [hs]; simp)
  · intro x hx y hy e
    rcases List.mem_append.mp hx with hx | hx <;> rcases List.mem_append.mp hy with hy | hy
    · exact g.binj x hx y hy e
    · rcases List.mem_singleton.mp hy with rfl
      have := at_lt (g.suc x hx); simp only at e; omega
    · rcases List.mem_singleton.mp hx with rfl
      have := at_lt (g.suc y hy); simp only at e; omega
    · rcases List.mem_singleton.mp hx with rfl
      rcases List.mem_singleton.mp hy with rfl
      rfl
  · rw [List.map_append, List.nodup_append]
    refine ⟨g.nd, by simp, ?_⟩
    intro a ha b hb e
    simp at hb
    subst e; subst hb
    exact hv ha
theorem c_get {n : Nat} {v : Str} {cells : List Cell} {k d m : Nat} {kvs : List (Str × TV)} {nodes : List Nd} {cnt : Str → Int} {suc : Str → List Str} {Q : TV → List Cell → Prop} (hk : cells[k]? = some (.obj "TopologicalSorter" d)) (hd : cells[d]? = some (.ns kvs))
    (hm : lookD kvs "_node2info" = some (.ref m)) (g : Gr cells m nodes cnt suc false) (h0 : ∀ u, u ∉ nodes.map (·.v) → cnt u = 0 ∧ suc u = []) (hl : nodes.length ≤ 1000)
    (q : ∀ (cells' : List Cell) (e : List Nd) (x : Nd), Gr cells' m (nodes ++ e) cnt suc false → x ∈ nodes ++ e → x.v = v → (nodes ++ e).map (·.v) = (if v ∈ nodes.map (·.v) then nodes.map (·.v) else nodes.map (·.v) ++ [v]) →
      (∀ i, i ≠ m → i < cells.length → cells'[i]? = cells[i]?) → cells.length ≤ cells'.length → Q (.ref x.a) cells') : (ev G2 (n + 60)).c true (.fn "TS._get_nodeinfo") [.ref k, .str v] cells Q := by
  refine cFn (f := f_tsGet) (by kernel_rfl) (bindS (l := [("self", .ref k), ("node", .str v)]) (by kernel_rfl) (by kernel_rfl) (by kernel_rfl) ?_)
  walk_at "go"
  refine opt_some (get_attr hk hd (by kernel_rfl) hm rfl) ?_
  refine opt_some (m_dget g.dict) (mNo (by kernel_rfl) (by decide) (by kernel_rfl) ?_)
  walk_at "go"
  refine callG (.meth (.get g.dict rfl)) ?_
  by_cases hv : v ∈ nodes.map (·.v)
  · refine hide fun hG => ?_
    obtain ⟨x, hx, rfl⟩ := List.mem_map.mp hv
    refine hG ?_
    clear hG
    rw [lookD_mem g.nd hx]
    walk_at "go"
    refine opt_some (a := false) rfl ?_
    walk_at "go"
    have hf : frz (.ref x.a) cells = (.ref x.a, cells) := frz_N (g.inf x hx) rfl
    rw [Option.getD_some, hf]
    rw [if_pos hv] at q
    exact q cells [] x (by rw [List.append_nil]; exact g) (by rw [List.append_nil]; exact hx) rfl (by rw [List.append_nil]) (fun _ _ _ => rfl) (Nat.le_refl _)
  · have hne : ∀ p ∈ nodes.map (fun x => (x.v, TV.ref x.a)), p.1 ≠ v := by
      intro p hp e
      refine hide fun hG => ?_
      obtain ⟨x, hx, rfl⟩ := List.mem_map.mp hp
      refine hG ?_
      clear hG
      exact hv (List.mem_map.mpr ⟨x, hx, e⟩)
    rw [lookD_none hne]
    walk_at "go"
    refine opt_some (a := true) rfl ?_
    walk_at "go"
    refine .asg2 (fun _ => by kernel_rfl) (fun _ => by kernel_rfl) ?_
    walk_at "go"
    refine callF (by kernel_rfl) (c_ninfo ?_)
    refine agCons ?_
    walk_at "go"
    refine opt_some (get_attr (at_app hk) (at_app hd) (by kernel_rfl) hm rfl) ?_
    walk_at "go"
    refine opt_some (a := (cells ++ [infCell v 0 (cells.length + 1), Cell.list []]).set m (.dict (nodes.map (fun x => (x.v, TV.ref x.a)) ++ [(v, .ref cells.length)]) false)) (by
      rw [v_set (at_app g.dict) rfl (by rw [List.length_map]; walk_at "om"), putD_new hne]) ?_
    refine agCons ?_
    walk_at "go"
    refine agNil ?_
    walk_at "go"
    have hN : m < cells.length := at_lt g.dict
    have hc : ((cells ++ [infCell v 0 (cells.length + 1), Cell.list []]).set m (.dict (nodes.map (fun x => (x.v, TV.ref x.a)) ++ [(v, .ref cells.length)]) false))[cells.length]? = some (infCell v 0 (cells.length + 1)) := set_off (by walk_at "om") (by simp)
    have hf : ∀ C : List Cell, C[cells.length]? = some (infCell v 0 (cells.length + 1)) → frz (.ref cells.length) C = (.ref cells.length, C) := fun C h => frz_N h rfl
    rw [hf _ hc]
    rw [if_neg hv] at q
    exact q _ [⟨v, cells.length, cells.length + 1⟩] ⟨v, cells.length, cells.length + 1⟩ (g.grow hv (h0 v hv).1 (h0 v hv).2) (by simp) rfl (by simp)
      (fun i h1 h2 => by rw [List.getElem?_set_ne h1.symm, List.getElem?_append_left h2]) (by simp)
end

section
open PySem PySem.W PyProof.Rows

theorem bindPos2 {f : FnI} {a b : Str} {x y : TV} {rest : List TV} (hp : f.params = [a, b]) (hd : f.defaults = []) (hv : f.vararg.isSome = true) (hl : rest.length + 2 ≤ lim) : bindPos f (x :: y :: rest) = some [(a, x), (b, y)] := by
  unfold bindPos
  rw [hp, hd]
  rw [if_pos ⟨hl, .inr hv, by simp⟩]
  simp
theorem bindPos1 {f : FnI} {a : Str} {x : TV} {rest : List TV} (hp : f.params = [a]) (hd : f.defaults = []) (hv : f.vararg.isSome = true) (hl : rest.length + 1 ≤ lim) : bindPos f (x :: rest) = some [(a, x)] := by
  unfold bindPos
  rw [hp, hd]
  rw [if_pos ⟨hl, .inr hv, by simp⟩]
  simp

/-- a sorter -/
structure So (cells : List Cell) (k d m : Nat) (rd : TV) (p q : Int) (nodes : List Nd) (cnt : Str → Int) (suc : Str → List Str) (lk : Bool) : Prop where
  ob : cells[k]? = some (.obj "TopologicalSorter" d)
  ns : cells[d]? = some (.ns [("_node2info", .ref m), ("_ready_nodes", rd), ("_npassedout", .int p), ("_nfinished", .int q)])
  gr : Gr cells m nodes cnt suc lk
  z : ∀ u, u ∉ nodes.map (·.v) → cnt u = 0 ∧ suc u = []

theorem putD_len (kvs : List (Str × TV)) (k : Str) (v : TV) : (putD kvs k v).length ≤ kvs.length + 1 := by
  induction kvs with
  | nil => exact Nat.le_refl 1
  | cons p l ih =>
    by_cases h : p.1 = k
    · rw [show putD (p :: l) k v = (p.1, v) :: l from if_pos h]
      exact Nat.le_succ _
    · rw [show putD (p :: l) k v = p :: putD l k v from if_neg h]
      exact Nat.succ_le_succ ih
theorem c_sorter {n : Nat} {cells : List Cell} {Q : TV → List Cell → Prop} (q : ∀ (cells' : List Cell) (k d m : Nat), So cells' k d m .none 0 0 [] (fun _ => 0) (fun _ => []) false → Q (.ref k) cells') : (ev G2 (n + 60)).c true (.fn "TopologicalSorter") [] cells Q := by
  refine cCls (i := "TS.__init__") (by kernel_rfl) ?_
  refine cFn (f := f_tsInit) (by kernel_rfl) (bindS (l := [("self", .ref (cells.length + 1)), ("graph", .none)]) (by kernel_rfl) (by kernel_rfl) (by kernel_rfl) ?_)
  have a0 : (cells ++ [Cell.ns [], Cell.obj "TopologicalSorter" cells.length])[cells.length]? = some (.ns []) := by simp
  have b0 : (cells ++ [Cell.ns [], Cell.obj "TopologicalSorter" cells.length])[cells.length + 1]? = some (.obj "TopologicalSorter" cells.length) := by simp
  generalize cells ++ [Cell.ns [], Cell.obj "TopologicalSorter" cells.length] = c0 at *
  walk_at "go"
  refine ex_some (set_attr (at_app b0) (at_app a0) (by kernel_rfl) (by simp)) ?_
  have a1 := set_hit (x := Cell.ns (putD [] "_node2info" (.ref c0.length))) (at_app (m := [Cell.dict [] false]) a0)
  have b1 := set_off (i := cells.length) (x := Cell.ns (putD [] "_node2info" (.ref c0.length))) (by walk_at "om") (at_app (m := [Cell.dict [] false]) b0)
  have m1 := set_off (i := cells.length) (j := c0.length) (x := Cell.ns (putD [] "_node2info" (.ref c0.length))) (by have := at_lt a0; omega) (at_last c0 (Cell.dict [] false))
  generalize (c0 ++ [Cell.dict [] false]).set cells.length (.ns (putD [] "_node2info" (.ref c0.length))) = c1 at *
  walk_at "go"
  have hkd : cells.length ≠ cells.length + 1 := by walk_at "om"
  have hmd : cells.length ≠ c0.length := by have := at_lt a0; omega
  refine ex_some (set_attr b1 a1 (by kernel_rfl) (Nat.le_trans (putD_len ..) (by simp))) ?_
  have a2 := set_hit (x := Cell.ns (putD (putD [] "_node2info" (.ref c0.length)) "_ready_nodes" .none)) a1
  have b2 := set_off (x := Cell.ns (putD (putD [] "_node2info" (.ref c0.length)) "_ready_nodes" .none)) hkd b1
  have m2 := set_off (x := Cell.ns (putD (putD [] "_node2info" (.ref c0.length)) "_ready_nodes" .none)) hmd m1
  generalize c1.set cells.length (.ns (putD (putD [] "_node2info" (.ref c0.length)) "_ready_nodes" .none)) = c2 at *
  walk_at "go"
  refine ex_some (set_attr b2 a2 (by kernel_rfl) (Nat.le_trans (putD_len ..) (Nat.succ_le_succ (Nat.le_trans (putD_len ..) (by simp : (0:Nat) + 1 ≤ 99))))) ?_
  have a3 := set_hit (x := Cell.ns (putD (putD (putD [] "_node2info" (.ref c0.length)) "_ready_nodes" .none) "_npassedout" (.int 0))) a2
  have b3 := set_off (x := Cell.ns (putD (putD (putD [] "_node2info" (.ref c0.length)) "_ready_nodes" .none) "_npassedout" (.int 0))) hkd b2
  have m3 := set_off (x := Cell.ns (putD (putD (putD [] "_node2info" (.ref c0.length)) "_ready_nodes" .none) "_npassedout" (.int 0))) hmd m2
  generalize c2.set cells.length (.ns (putD (putD (putD [] "_node2info" (.ref c0.length)) "_ready_nodes" .none) "_npassedout" (.int 0))) = c3 at *
  walk_at "go"
  refine ex_some (set_attr b3 a3 (by kernel_rfl) (Nat.le_trans (putD_len ..) (Nat.succ_le_succ (Nat.le_trans (putD_len ..) (Nat.succ_le_succ (Nat.le_trans (putD_len ..) (by simp : (0:Nat) + 1 ≤ 98))))))) ?_
  walk_at "go"
  refine opt_some (a := false) rfl ?_
  walk_at "go"
  refine ⟨rfl, q _ (cells.length + 1) cells.length c0.length ⟨set_off hkd b3, set_hit a3, ⟨set_off hmd m3, fun _ hx => (nomatch hx), fun _ hx => (nomatch hx), fun _ hx => (nomatch hx), List.nodup_nil⟩, fun u _ => ⟨rfl, rfl⟩⟩⟩

noncomputable def upF {α : Type} (f : Str → α) (x : Str) (v : α) : Str → α := fun y => if y = x then v else f y
theorem upF_hit {α : Type} {f : Str → α} {x : Str} {v : α} : upF f x v x = v := if_pos rfl
theorem upF_miss {α : Type} {f : Str → α} {x y : Str} {v : α} (h : y ≠ x) : upF f x v y = f y := if_neg h

section
variable {cells : List Cell} {m k d : Nat} {nodes : List Nd} {cnt : Str → Int} {suc : Str → List Str} {lk : Bool} {rd : TV} {p q : Int}
theorem Gr.ma (g : Gr cells m nodes cnt suc lk) {x : Nd} (hx : x ∈ nodes) : x.a ≠ m := fun e => by have := g.dict; rw [← e, g.inf x hx] at this; cases this
theorem Gr.mb (g : Gr cells m nodes cnt suc lk) {x : Nd} (hx : x ∈ nodes) : x.b ≠ m := fun e => by have := g.dict; rw [← e, g.suc x hx] at this; cases this
theorem Gr.ab (g : Gr cells m nodes cnt suc lk) {x y : Nd} (hx : x ∈ nodes) (hy : y ∈ nodes) : x.a ≠ y.b := fun e => by have := g.inf x hx; rw [e, g.suc y hy] at this; cases this
theorem Gr.ainj (g : Gr cells m nodes cnt suc lk) {x y : Nd} (hx : x ∈ nodes) (hy : y ∈ nodes) (e : x.a = y.a) : x.v = y.v := by
  have := g.inf x hx
  rw [e, g.inf y hy] at this
  simp only [infCell, Option.some.injEq, Cell.slots.injEq, List.cons.injEq, TV.str.injEq] at this
  exact this.2.1.symm
theorem Gr.same (g : Gr cells m nodes cnt suc lk) {x y : Nd} (hx : x ∈ nodes) (hy : y ∈ nodes) (e : x.v = y.v) : x = y := by
  have := g.nd
  clear g
  induction nodes with
  | nil => cases hx
  | cons z l ih =>
    rw [List.map_cons, List.nodup_cons] at this
    rcases List.mem_cons.mp hx with h1 | h1 <;> rcases List.mem_cons.mp hy with h2 | h2
    · rw [h1, h2]
    · exact (this.1 (List.mem_map.mpr ⟨y, h2, by rw [← e, h1]⟩)).elim
    · exact (this.1 (List.mem_map.mpr ⟨x, h1, by rw [e, h2]⟩)).elim
    · exact ih h1 h2 this.2
theorem Gr.setCnt (g : Gr cells m nodes cnt suc lk) {x : Nd} (hx : x ∈ nodes) (c : Int) : Gr (cells.set x.a (infCell x.v c x.b)) m nodes (upF cnt x.v c) suc lk := by
  refine ⟨set_off (g.ma hx) g.dict, fun y hy => ?_, fun y hy => set_off (g.ab hx hy) (g.suc y hy), g.binj, g.nd⟩
  by_cases e : y.v = x.v
  · have := g.same hy hx e
    subst this
    rw [upF_hit]; exact set_hit (g.inf y hy)
  · rw [upF_miss e]
    exact set_off (fun h => e (g.ainj hx hy h).symm) (g.inf y hy)
theorem Gr.setSuc (g : Gr cells m nodes cnt suc lk) {x : Nd} (hx : x ∈ nodes) (l : List Str) : Gr (cells.set x.b (.list (l.map .str))) m nodes cnt (upF suc x.v l) lk := by
  refine ⟨set_off (g.mb hx) g.dict, fun y hy => set_off (g.ab hy hx).symm (g.inf y hy), fun y hy => ?_, g.binj, g.nd⟩
  by_cases e : y.v = x.v
  · have := g.same hy hx e
    subst this
    rw [upF_hit]; exact set_hit (g.suc y hy)
  · rw [upF_miss e]
    exact set_off (fun h => e (g.binj x hx y hy h).symm) (g.suc y hy)
theorem Gr.off (g : Gr cells m nodes cnt suc lk) {i : Nat} {c : Cell} (hm : i ≠ m) (ha : ∀ x ∈ nodes, i ≠ x.a) (hb : ∀ x ∈ nodes, i ≠ x.b) : Gr (cells.set i c) m nodes cnt suc lk :=
  ⟨set_off hm g.dict, fun y hy => set_off (ha y hy) (g.inf y hy), fun y hy => set_off (hb y hy) (g.suc y hy), g.binj, g.nd⟩
theorem Gr.app (g : Gr cells m nodes cnt suc lk) (l : List Cell) : Gr (cells ++ l) m nodes cnt suc lk :=
  ⟨at_app g.dict, fun y hy => at_app (g.inf y hy), fun y hy => at_app (g.suc y hy), g.binj, g.nd⟩
theorem So.da (s : So cells k d m rd p q nodes cnt suc lk) {x : Nd} (hx : x ∈ nodes) : x.a ≠ d := fun e => by have := s.ns; rw [← e, s.gr.inf x hx] at this; cases this
theorem So.db (s : So cells k d m rd p q nodes cnt suc lk) {x : Nd} (hx : x ∈ nodes) : x.b ≠ d := fun e => by have := s.ns; rw [← e, s.gr.suc x hx] at this; cases this
theorem So.ka (s : So cells k d m rd p q nodes cnt suc lk) {x : Nd} (hx : x ∈ nodes) : x.a ≠ k := fun e => by have := s.ob; rw [← e, s.gr.inf x hx] at this; cases this
theorem So.kb (s : So cells k d m rd p q nodes cnt suc lk) {x : Nd} (hx : x ∈ nodes) : x.b ≠ k := fun e => by have := s.ob; rw [← e, s.gr.suc x hx] at this; cases this
theorem So.kd (s : So cells k d m rd p q nodes cnt suc lk) : d ≠ k := fun e => by have := s.ob; rw [← e, s.ns] at this; cases this
theorem So.md (s : So cells k d m rd p q nodes cnt suc lk) : m ≠ d := fun e => by have := s.ns; rw [← e, s.gr.dict] at this; cases this
theorem So.km (s : So cells k d m rd p q nodes cnt suc lk) : m ≠ k := fun e => by have := s.ob; rw [← e, s.gr.dict] at this; cases this
theorem So.setCnt (s : So cells k d m rd p q nodes cnt suc lk) {x : Nd} (hx : x ∈ nodes) (c : Int) : So (cells.set x.a (infCell x.v c x.b)) k d m rd p q nodes (upF cnt x.v c) suc lk :=
  ⟨set_off (s.ka hx) s.ob, set_off (s.da hx) s.ns, s.gr.setCnt hx c, fun u hu => ⟨by rw [upF_miss (show u ≠ x.v from fun e => hu (by rw [e]; exact List.mem_map.mpr ⟨x, hx, rfl⟩))]; exact (s.z u hu).1, (s.z u hu).2⟩⟩
theorem So.setSuc (s : So cells k d m rd p q nodes cnt suc lk) {x : Nd} (hx : x ∈ nodes) (l : List Str) : So (cells.set x.b (.list (l.map .str))) k d m rd p q nodes cnt (upF suc x.v l) lk :=
  ⟨set_off (s.kb hx) s.ob, set_off (s.db hx) s.ns, s.gr.setSuc hx l, fun u hu => ⟨(s.z u hu).1, by rw [upF_miss (show u ≠ x.v from fun e => hu (by rw [e]; exact List.mem_map.mpr ⟨x, hx, rfl⟩))]; exact (s.z u hu).2⟩⟩
theorem So.setNs (s : So cells k d m rd p q nodes cnt suc lk) (rd' : TV) (p' q' : Int) : So (cells.set d (.ns [("_node2info", .ref m), ("_ready_nodes", rd'), ("_npassedout", .int p'), ("_nfinished", .int q')])) k d m rd' p' q' nodes cnt suc lk :=
  ⟨set_off s.kd s.ob, set_hit s.ns, s.gr.off s.md.symm (fun _ hx => (s.da hx).symm) (fun _ hx => (s.db hx).symm), s.z⟩
theorem So.app (s : So cells k d m rd p q nodes cnt suc lk) (l : List Cell) : So (cells ++ l) k d m rd p q nodes cnt suc lk := ⟨at_app s.ob, at_app s.ns, s.gr.app l, s.z⟩
end
end

section
open PySem PySem.W PyProof.Rows

/-- a name, put behind the others if it is new -/
noncomputable def ins (ns : List Str) (v : Str) : List Str := if v ∈ ns then ns else ns ++ [v]
theorem ins_len (ns : List Str) (v : Str) : (ins ns v).length ≤ ns.length + 1 := by unfold ins; split <;> simp
theorem m_obj {G : TG} {cells : List Cell} {k d : Nat} {c m : Str} {kvs : List (Str × TV)} {f : Str} (h1 : cells[k]? = some (.obj c d)) (h2 : cells[d]? = some (.ns kvs)) (h3 : lookD kvs m = none) (h4 : G.meth c m = some f) : methOf G cells (.ref k) m = some (.fn f) := by
  show methC G cells m cells[k]? = _
  rw [h1]
  show ((cellN cells[d]?).bind fun kvs => if lookD kvs m = none then (G.meth c m).map TV.fn else none) = _
  rw [h2]
  exact (if_pos h3).trans (congrArg (Option.map TV.fn) h4)
theorem c_getS {n : Nat} {v : Str} {cells : List Cell} {k d m : Nat} {rd : TV} {p q : Int} {nodes : List Nd} {cnt : Str → Int} {suc : Str → List Str} {Q : TV → List Cell → Prop} (s : So cells k d m rd p q nodes cnt suc false) (hl : nodes.length ≤ 1000)
    (h : ∀ (cells' : List Cell) (nodes' : List Nd) (x : Nd), So cells' k d m rd p q nodes' cnt suc false → x ∈ nodes' → x.v = v → nodes'.map (·.v) = ins (nodes.map (·.v)) v → Q (.ref x.a) cells') : (ev G2 (n + 60)).c true (.fn "TS._get_nodeinfo") [.ref k, .str v] cells Q := by
  refine c_get s.ob s.ns (by walk_at "lk") s.gr s.z hl fun cells' e x g hx hv hn hf _ => ?_
  refine h cells' (nodes ++ e) x ⟨?_, ?_, g, fun u hu => s.z u fun h => hu (by rw [List.map_append]; exact List.mem_append_left _ h)⟩ hx hv hn
  · rw [hf k s.km.symm (at_lt s.ob)]; exact s.ob
  · rw [hf d s.md.symm (at_lt s.ns)]; exact s.ns
theorem So.cong {cells : List Cell} {k d m : Nat} {rd : TV} {p q : Int} {nodes : List Nd} {cnt cnt' : Str → Int} {suc suc' : Str → List Str} {lk : Bool} (s : So cells k d m rd p q nodes cnt suc lk) (h1 : ∀ u, cnt u = cnt' u) (h2 : ∀ u, suc u = suc' u) : So cells k d m rd p q nodes cnt' suc' lk := by
  obtain rfl : cnt = cnt' := funext h1
  obtain rfl : suc = suc' := funext h2
  exact s
theorem foldl_ins_len (ps : List Str) : ∀ ns : List Str, (ps.foldl ins ns).length ≤ ns.length + ps.length := by
  induction ps with
  | nil => intro ns; exact Nat.le_refl _
  | cons a l ih => intro ns; have := ih (ins ns a); have := ins_len ns a; simp only [List.foldl_cons, List.length_cons]; omega
theorem c_add {n : Nat} {v : Str} {ps : List Str} {cells : List Cell} {k d m : Nat} {p q : Int} {nodes : List Nd} {cnt : Str → Int} {suc : Str → List Str} {Q : TV → List Cell → Prop} (s : So cells k d m .none p q nodes cnt suc false) (hl : nodes.length + ps.length ≤ 900) (hs : ∀ u, (suc u).length + ps.length ≤ 900)
    (h : ∀ (cells' : List Cell) (nodes' : List Nd), So cells' k d m .none p q nodes' (upF cnt v (cnt v + ps.length)) (fun u => suc u ++ List.replicate (ps.count u) v) false → nodes'.map (·.v) = (v :: ps).foldl ins (nodes.map (·.v)) → Q .none cells') :
    (ev G2 (n + 90)).c true (.fn "TS.add") (.ref k :: .str v :: ps.map .str) cells Q := by
  have hpl : (ps.map TV.str).length ≤ lim := by rw [List.length_map]; walk_at "om"
  refine cFn (f := f_tsAdd) (by kernel_rfl) (bindV (l := [("self", .ref k), ("node", .str v)]) (l' := [("self", .ref k), ("node", .str v), ("predecessors", .tup (ps.map .str))]) (a := "predecessors")
    (bindPos2 (by kernel_rfl) (by kernel_rfl) (by kernel_rfl) (by rw [List.length_map]; walk_at "om")) (by kernel_rfl) (by kernel_rfl) (by kernel_rfl) ?_)
  walk_at "go"
  refine opt_some (get_attr s.ob s.ns (by kernel_rfl) (by walk_at "lk") rfl) ?_
  walk_at "go"
  refine opt_some (a := false) rfl ?_
  walk_at "go"
  refine opt_some (m_obj (f := "TS._get_nodeinfo") s.ob s.ns (by kernel_rfl) (by kernel_rfl)) (mNo (by kernel_rfl) (by decide) (by kernel_rfl) ?_)
  walk_at "go"
  refine callF (by kernel_rfl) (c_getS s (by walk_at "om") fun c1 n1 x s1 hx hv hn1 => ?_)
  subst hv
  walk_at "go"
  refine .augA ?_
  walk_at "go"
  refine opt_some (got_slot (i := 1) (s1.gr.inf x hx) (by kernel_rfl) rfl rfl) ?_
  walk_at "go"
  refine callG (.fn rfl (.len (v := .tup (ps.map .str)) (xs := ps.map .str) rfl hpl)) ?_
  refine ⟨_, _, _, rfl, rfl, set_slot (i := 1) (s1.gr.inf x hx) (by kernel_rfl) (by simp), ?_⟩
  have s2 := s1.setCnt hx (cnt x.v + ((ps.map TV.str).length : Nat))
  rw [List.length_map] at s2 ⊢
  first | refine kNext (sCons ?_) | refine sCons ?_
  refine .for_ rfl (fun _ _ => by rfl) ?_
  walk_at "go"
  refine walkT hpl ?_
  have hlen1 : n1.length ≤ nodes.length + 1 := by
    have h1 := congrArg List.length hn1
    have h2 := ins_len (nodes.map (·.v)) x.v
    simp only [List.length_map] at h1 h2
    omega
  refine for_inv (fun i es => ∃ loc C N, es = ⟨loc, C⟩ ∧ So C k d m .none p q N (upF cnt x.v (cnt x.v + (ps.length : Nat))) (fun u => suc u ++ List.replicate ((ps.take i).count u) x.v) false ∧ N.map (·.v) = (ps.take i).foldl ins (n1.map (·.v)) ∧
      loc "self" = some (.ref k) ∧ loc "node" = some (.str x.v)) (fun i es _ => standsT hpl) ?hend ?step ⟨_, _, _, rfl, s2.cong (fun _ => rfl) (fun _ => by simp), rfl, by walk_at "lk", by walk_at "lk"⟩
  case hend =>
    intro es hJ0
    refine hide fun hG => ?_
    obtain ⟨loc, C, N, rfl, h1, h2, h3, h4⟩ := hJ0
    refine hG ?_
    clear hG
    rw [List.length_map, List.take_length] at h1 h2
    walk_at "go"
    refine h C N h1 ?_
    rw [h2, hn1]; rfl
  case step =>
    intro i y es hy hJ0 T hT _ _ _
    refine hide fun hG => ?_
    obtain ⟨loc, C, N, rfl, h1, h2, h3, h4⟩ := hJ0
    refine hG ?_
    clear hG
    refine hide fun hG => ?_
    obtain ⟨z, hz, rfl⟩ := map_at hy
    refine hG ?_
    clear hG
    refine .name (sto (by kernel_rfl) ?_)
    walk_at "go"
    refine opt_some (m_obj (f := "TS._get_nodeinfo") h1.ob h1.ns (by kernel_rfl) (by kernel_rfl)) (mNo (by kernel_rfl) (by decide) (by kernel_rfl) ?_)
    walk_at "go"
    have hNl : N.length ≤ 1000 := by
      have e1 := congrArg List.length h2
      have e2 := foldl_ins_len (ps.take i) (n1.map (·.v))
      simp only [List.length_map, List.length_take] at e1 e2
      omega
    refine callF (by kernel_rfl) (c_getS h1 hNl fun C' N' w s3 hw hwv hN' => ?_)
    subst hwv
    walk_at "go"
    refine opt_some (got_slot (i := 2) (s3.gr.inf w hw) (by kernel_rfl) rfl rfl) ?_
    refine opt_some (m_append (s3.gr.suc w hw)) (mNo (by kernel_rfl) (by decide) (by kernel_rfl) ?_)
    walk_at "go"
    have hcl : (ps.take i).count w.v ≤ ps.length := Nat.le_trans List.count_le_length (by simp [Nat.min_le_right])
    refine callG (.meth (.append (s3.gr.suc w hw) (by have := hs w.v; simp only [List.length_map, List.length_append, List.length_replicate, lim]; omega))) ?_
    walk_at "go"
    have s4 := s3.setSuc hw (suc w.v ++ List.replicate ((ps.take i).count w.v) x.v ++ [x.v])
    rw [List.map_append] at s4
    refine hT _ ⟨_, _, _, rfl, s4.cong (fun _ => rfl) (fun u => ?_), ?_, by walk_at "lk", by walk_at "lk"⟩
    · rw [take_step hz, List.count_append]
      by_cases e : u = w.v
      · subst e
        rw [upF_hit, List.append_assoc, ← List.replicate_succ', List.count_singleton_self]
      · rw [upF_miss e, show List.count u [w.v] = 0 from List.count_eq_zero.mpr (by simpa using e), Nat.add_zero]
    · rw [hN', h2, take_step hz, List.foldl_append]; rfl
end

section
open PySem PySem.W PyProof.Rows

theorem So.frame {cells C : List Cell} {k d m : Nat} {rd : TV} {p q : Int} {nodes : List Nd} {cnt : Str → Int} {suc : Str → List Str} {lk : Bool} (s : So cells k d m rd p q nodes cnt suc lk) (h : ∀ i, i < cells.length → C[i]? = cells[i]?) : So C k d m rd p q nodes cnt suc lk :=
  ⟨by rw [h _ (at_lt s.ob)]; exact s.ob, by rw [h _ (at_lt s.ns)]; exact s.ns, ⟨by rw [h _ (at_lt s.gr.dict)]; exact s.gr.dict, fun x hx => by rw [h _ (at_lt (s.gr.inf x hx))]; exact s.gr.inf x hx, fun x hx => by rw [h _ (at_lt (s.gr.suc x hx))]; exact s.gr.suc x hx, s.gr.binj, s.gr.nd⟩, s.z⟩

/-- a way along the successors, of one step at least -/
inductive Way (suc : Str → List Str) : Str → Str → Prop
  | one {v u : Str} : u ∈ suc v → Way suc v u
  | more {v w u : Str} : w ∈ suc v → Way suc w u → Way suc v u
/-- each one's successors stand behind it -/
inductive Topo (suc : Str → List Str) : List Str → Prop
  | nil : Topo suc []
  | cons {v : Str} {l : List Str} : Topo suc l → v ∉ l → (∀ u ∈ suc v, u ∈ l) → Topo suc (v :: l)
theorem Topo.back {suc : Str → List Str} {l : List Str} (h : Topo suc l) {v u : Str} (hw : Way suc v u) : ∀ {l : List Str}, Topo suc l → v ∈ l → ∃ a b, l = a ++ v :: b ∧ u ∈ b := by
  clear h
  induction hw with
  | @one v u hu =>
    intro l ht hv
    induction ht with
    | nil => cases hv
    | @cons x l hl hx hs ih =>
      rcases List.mem_cons.mp hv with rfl | hv'
      · exact ⟨[], l, rfl, hs u hu⟩
      · refine hide fun hG => ?_
        obtain ⟨a, b, rfl, h⟩ := ih hv'
        refine hG ?_
        clear hG
        exact ⟨x :: a, b, rfl, h⟩
  | @more v w u hw hwu ih =>
    intro l ht hv
    have key : ∃ a b, l = a ++ v :: b ∧ w ∈ b ∧ Topo suc b := by
      clear ih
      induction ht with
      | nil => cases hv
      | @cons x l hl hx hs ih2 =>
        rcases List.mem_cons.mp hv with rfl | hv'
        · exact ⟨[], l, rfl, hs w hw, hl⟩
        · refine hide fun hG => ?_
          obtain ⟨a, b, rfl, h, h'⟩ := ih2 hv'
          refine hG ?_
          clear hG
          exact ⟨x :: a, b, rfl, h, h'⟩
    refine hide fun hG => ?_
    obtain ⟨a, b, rfl, h1, h2⟩ := key
    refine hG ?_
    clear hG
    refine hide fun hG => ?_
    obtain ⟨a', b', rfl, h3⟩ := ih h2 h1
    refine hG ?_
    clear hG
    exact ⟨a, a' ++ w :: b', rfl, List.mem_append_right _ (.tail _ h3)⟩
theorem Topo.nd {suc : Str → List Str} {l : List Str} (h : Topo suc l) : l.Nodup := by
  induction h with
  | nil => exact List.nodup_nil
  | cons _ h2 _ ih => exact List.nodup_cons.mpr ⟨h2, ih⟩
/-- no way leads back -/
theorem Topo.free {suc : Str → List Str} {l : List Str} (h : Topo suc l) {v : Str} (hv : v ∈ l) : ¬ Way suc v v := by
  intro hw
  refine hide fun hG => ?_
  obtain ⟨a, b, rfl, hb⟩ := h.back hw h hv
  refine hG ?_
  clear hG
  have := h.nd
  rw [List.nodup_append, List.nodup_cons] at this
  exact this.2.1.1 hb

theorem sub_len {α : Type} [BEq α] [LawfulBEq α] : ∀ {l m : List α}, l.Nodup → (∀ x ∈ l, x ∈ m) → l.length ≤ m.length
  | [], _, _, _ => Nat.zero_le _
  | a :: l, m, hn, hs => by
    rw [List.nodup_cons] at hn
    have ha := hs a (.head _)
    have := sub_len (m := m.erase a) hn.2 fun x hx => (List.mem_erase_of_ne (by rintro rfl; exact hn.1 hx)).mpr (hs x (.tail _ hx))
    rw [List.length_erase_of_mem ha] at this
    have := List.length_pos_of_mem ha
    simp only [List.length_cons]; omega
theorem sum_le {α : Type} {l : List α} {f g : α → Nat} (h : ∀ x ∈ l, f x ≤ g x) : (l.map f).sum ≤ (l.map g).sum := by
  induction l with
  | nil => exact Nat.le_refl _
  | cons a l ih => have := h a (.head _); have := ih fun x hx => h x (.tail _ hx); simp only [List.map_cons, List.sum_cons]; omega
theorem sum_lt {α : Type} {l : List α} {f g : α → Nat} (h : ∀ x ∈ l, f x ≤ g x) {x : α} (hx : x ∈ l) (hl : f x < g x) : (l.map f).sum < (l.map g).sum := by
  induction l with
  | nil => cases hx
  | cons a l ih =>
    have h1 := h a (.head _)
    have h2 : (l.map f).sum ≤ (l.map g).sum := sum_le fun x hx => h x (.tail _ hx)
    simp only [List.map_cons, List.sum_cons]
    rcases List.mem_cons.mp hx with rfl | hx
    · omega
    · have := ih (fun x hx => h x (.tail _ hx)) hx; omega

/-- one that is under way: its name as it is held, its iterator and how far that is -/
structure Fr where
  v : Str
  t : TV
  i : Nat
  p : Nat
/-- the path under way, topmost first; what hangs at its top -/
noncomputable def Dn (suc : Str → List Str) (fin : List Str) : Option Str → List Fr → Prop
  | _, [] => True
  | none, f :: fs => (∀ j u, j < f.p → (suc f.v)[j]? = some u → u ∈ fin) ∧ Dn suc fin (some f.v) fs
  | some u, f :: fs => 1 ≤ f.p ∧ (suc f.v)[f.p - 1]? = some u ∧ (∀ j u, j < f.p - 1 → (suc f.v)[j]? = some u → u ∈ fin) ∧ Dn suc fin (some f.v) fs
theorem Dn.mono {suc : Str → List Str} {fin fin' : List Str} (h : ∀ v ∈ fin, v ∈ fin') : ∀ {o : Option Str} {fs : List Fr}, Dn suc fin o fs → Dn suc fin' o fs
  | none, [], _ => trivial
  | some _, [], _ => trivial
  | none, _ :: _, ⟨h1, h2⟩ => ⟨fun j u a b => h u (h1 j u a b), Dn.mono h h2⟩
  | some _, _ :: _, ⟨h0, h1, h2, h3⟩ => ⟨h0, h1, fun j u a b => h u (h2 j u a b), Dn.mono h h3⟩
theorem Dn.tail {suc : Str → List Str} {fin : List Str} : ∀ {o : Option Str} {f : Fr} {fs : List Fr}, Dn suc fin o (f :: fs) → Dn suc fin (some f.v) fs
  | none, _, _, h => h.2
  | some _, _, _, h => h.2.2.2
/-- what hangs at the top is done with -/
theorem Dn.drop {suc : Str → List Str} {fin : List Str} {u : Str} (hu : u ∈ fin) : ∀ {fs : List Fr}, Dn suc fin (some u) fs → Dn suc fin none fs
  | [], _ => trivial
  | f :: fs, ⟨h0, h1, h2, h3⟩ => ⟨fun j w a b => by
      by_cases e : j = f.p - 1
      · subst e; rw [h1] at b; cases b; exact hu
      · exact h2 j w (by walk_at "om") b, h3⟩
theorem Dn.way {suc : Str → List Str} {fin : List Str} : ∀ {fs : List Fr} {u : Str}, Dn suc fin (some u) fs → ∀ f ∈ fs, Way suc f.v u
  | [], _, _, f, hf => nomatch hf
  | g :: fs, u, ⟨_, h1, _, h3⟩, f, hf => by
    have hg : Way suc g.v u := .one (List.mem_of_getElem? h1)
    rcases List.mem_cons.mp hf with rfl | hf
    · exact hg
    · have key : ∀ {a b c : Str}, Way suc a b → Way suc b c → Way suc a c := fun h1 h2 => by
        induction h1 with
        | one h => exact .more h h2
        | more h _ ih => exact .more h (ih h2)
      exact key (Dn.way h3 f hf) hg

/-- the search for a cycle, under way -/
structure DI (c0 C : List Cell) (nodes : List Nd) (suc : Str → List Str) (fs : List Fr) (fin seen : List Str) (w : Str → Nat) : Prop where
  old : ∀ i, i < c0.length → C[i]? = c0[i]?
  st : C[c0.length]? = some (.list (fs.map (·.t)).reverse)
  it : C[c0.length + 1]? = some (.list (fs.map fun f => TV.bm f.i "list_iterator.__next__").reverse)
  se : C[c0.length + 2]? = some (.set seen false)
  di : ∃ kvs, C[c0.length + 3]? = some (.dict kvs false) ∧ kvs.map (·.1) = (fs.map (·.v)).reverse ∧ ∀ p ∈ kvs, ∃ i : Int, p.2 = .int i
  fr : ∀ f ∈ fs, c0.length + 4 ≤ f.i ∧ keyTV f.t = some f.v ∧ ∃ x ∈ nodes, x.v = f.v ∧ C[f.i]? = some (.iter x.b f.p)
  nv : (fs.map (·.v)).Nodup
  ni : (fs.map (·.i)).Nodup
  iff : ∀ v, v ∈ seen ↔ v ∈ fs.map (·.v) ∨ v ∈ fin
  dis : ∀ v ∈ fs.map (·.v), v ∉ fin
  sn : seen.Nodup
  sub : ∀ v ∈ seen, v ∈ nodes.map (·.v)
  topo : Topo suc fin
  w1 : ∀ v, v ∉ seen → w v = (suc v).length + 2
  w2 : ∀ f ∈ fs, w f.v = (suc f.v).length - f.p + 1
end

section
open PySem PySem.W PyProof.Rows

theorem delD_last {kvs : List (Str × TV)} {l : List Str} {k : Str} (h : kvs.map (·.1) = l ++ [k]) (hk : k ∉ l) : (delD kvs k).map (·.1) = l ∧ (∀ p ∈ delD kvs k, p ∈ kvs) ∧ (lookD kvs k).isSome = true := by
  induction kvs generalizing l with
  | nil => cases l <;> cases h
  | cons p r ih =>
    cases l with
    | nil =>
      have h1 : p.1 = k := (List.cons.inj h).1
      rw [show delD (p :: r) k = r from if_pos h1, show lookD (p :: r) k = some p.2 from if_pos h1]
      exact ⟨(List.cons.inj h).2, fun q => .tail _, rfl⟩
    | cons a l =>
      have h1 : p.1 = a := (List.cons.inj h).1
      have hx : p.1 ≠ k := fun e => hk (e ▸ h1 ▸ .head _)
      have i := ih (List.cons.inj h).2 fun hm => hk (.tail _ hm)
      rw [show delD (p :: r) k = p :: delD r k from if_neg hx, show lookD (p :: r) k = lookD r k from if_neg hx]
      exact ⟨by rw [List.map_cons, i.1, h1], fun q hq => (List.mem_cons.mp hq).elim (fun e => e ▸ .head _) fun hq => .tail _ (i.2.1 q hq), i.2.2⟩
section
variable {c0 C : List Cell} {nodes : List Nd} {suc : Str → List Str} {fs : List Fr} {fin seen : List Str} {w : Str → Nat} {f : Fr}
theorem DI.lt (h : DI c0 C nodes suc fs fin seen w) : c0.length + 3 < C.length := by obtain ⟨kvs, h, _⟩ := h.di; exact at_lt h
theorem DI.next (h : DI c0 C nodes suc (f :: fs) fin seen w) {b : Nat} (hi : C[f.i]? = some (.iter b f.p)) (c : Nat) (hc : c = (suc f.v).length - (f.p + 1) + 1) :
    DI c0 (C.set f.i (.iter b (f.p + 1))) nodes suc ({ f with p := f.p + 1 } :: fs) fin seen (upF w f.v c) := by
  refine hide fun hG => ?_
  obtain ⟨g1, g2, x, hx, g3, g4⟩ := h.fr f (.head _)
  refine hG ?_
  clear hG
  have hb : b = x.b := by rw [hi] at g4; cases g4; rfl
  have nv := h.nv
  have ni := h.ni
  have dis := h.dis
  rw [List.map_cons] at nv ni dis
  refine ⟨fun i hl => set_off (by walk_at "om") (h.old i hl), set_off (by walk_at "om") h.st, set_off (by walk_at "om") h.it, set_off (by walk_at "om") h.se, ?_, ?_, nv, ni, h.iff, dis, h.sn, h.sub, h.topo, ?_, ?_⟩
  · refine hide fun hG => ?_
    obtain ⟨kvs, k1, k2⟩ := h.di
    refine hG ?_
    clear hG
    exact ⟨kvs, set_off (by walk_at "om") k1, k2⟩
  · intro f' hf'
    rcases List.mem_cons.mp hf' with rfl | hf'
    · exact ⟨g1, g2, x, hx, g3, by rw [← hb]; exact set_hit hi⟩
    · refine hide fun hG => ?_
      obtain ⟨k1, k2, y, hy, k3, k4⟩ := h.fr f' (.tail _ hf')
      refine hG ?_
      clear hG
      refine ⟨k1, k2, y, hy, k3, set_off (fun e => ?_) k4⟩
      exact (List.nodup_cons.mp ni).1 (e ▸ List.mem_map_of_mem hf')
  · intro v hv
    have : v ≠ f.v := fun e => hv ((h.iff v).mpr (.inl (e ▸ .head _)))
    rw [upF_miss this]; exact h.w1 v hv
  · intro f' hf'
    rcases List.mem_cons.mp hf' with rfl | hf'
    · show upF w f.v c f.v = _
      rw [upF_hit]; exact hc
    · have : f'.v ≠ f.v := fun e => (List.nodup_cons.mp nv).1 (e ▸ List.mem_map_of_mem hf')
      rw [upF_miss this]; exact h.w2 f' (.tail _ hf')
theorem DI.pop (h : DI c0 C nodes suc (f :: fs) fin seen w) (hs : ∀ u ∈ suc f.v, u ∈ fin) :
    ∃ kvs, C[c0.length + 3]? = some (.dict kvs false) ∧ (lookD kvs f.v).isSome = true ∧ DI c0 ((((C.set f.i .dead).set c0.length (.list (fs.map (·.t)).reverse)).set (c0.length + 3) (.dict (delD kvs f.v) false)).set (c0.length + 1) (.list (fs.map fun f => TV.bm f.i "list_iterator.__next__").reverse)) nodes suc fs (f.v :: fin) seen (upF w f.v 0) := by
  refine hide fun hG => ?_
  obtain ⟨g1, g2, x, hx, g3, g4⟩ := h.fr f (.head _)
  refine hG ?_
  clear hG
  refine hide fun hG => ?_
  obtain ⟨kvs, k1, k2, k3⟩ := h.di
  refine hG ?_
  clear hG
  have nv := h.nv
  have ni := h.ni
  rw [List.map_cons, List.nodup_cons] at nv ni
  rw [List.map_cons, List.reverse_cons] at k2
  refine hide fun hG => ?_
  obtain ⟨d1, d2, d3⟩ := delD_last k2 (by simpa using nv.1)
  refine hG ?_
  clear hG
  have off : ∀ {i : Nat} {o : Option Cell}, i ≠ f.i → i ≠ c0.length → i ≠ c0.length + 3 → i ≠ c0.length + 1 → C[i]? = o → ((((C.set f.i .dead).set c0.length (.list (fs.map (·.t)).reverse)).set (c0.length + 3) (.dict (delD kvs f.v) false)).set (c0.length + 1) (.list (fs.map fun f => TV.bm f.i "list_iterator.__next__").reverse))[i]? = o :=
    fun h1 h2 h3 h4 e => set_off h4.symm (set_off h3.symm (set_off h2.symm (set_off h1.symm e)))
  have hf : f.v ∉ fin := h.dis f.v (.head _)
  refine ⟨kvs, k1, d3, fun i hl => off (by walk_at "om") (by walk_at "om") (by walk_at "om") (by walk_at "om") (h.old i hl), ?_, ?_, off (by walk_at "om") (by walk_at "om") (by walk_at "om") (by walk_at "om") h.se, ⟨_, ?_, d1, fun p hp => k3 p (d2 p hp)⟩, ?_, nv.2, ni.2, ?_, ?_, h.sn, h.sub, .cons h.topo hf hs, ?_, ?_⟩
  · exact set_off (by walk_at "om") (set_off (by walk_at "om") (set_hit (set_off (by walk_at "om") h.st)))
  · exact set_hit (set_off (by walk_at "om") (set_off (by walk_at "om") (set_off (by walk_at "om") h.it)))
  · exact set_off (by walk_at "om") (set_hit (set_off (by walk_at "om") (set_off (by walk_at "om") k1)))
  · intro f' hf'
    refine hide fun hG => ?_
    obtain ⟨l1, l2, y, hy, l3, l4⟩ := h.fr f' (.tail _ hf')
    refine hG ?_
    clear hG
    exact ⟨l1, l2, y, hy, l3, off (fun e => ni.1 (e ▸ List.mem_map_of_mem hf')) (by walk_at "om") (by walk_at "om") (by walk_at "om") l4⟩
  · intro v
    rw [h.iff v, List.map_cons, List.mem_cons, List.mem_cons]
    constructor
    · rintro ((h | h) | h)
      · exact .inr (.inl h)
      · exact .inl h
      · exact .inr (.inr h)
    · rintro (h | h | h)
      · exact .inl (.inr h)
      · exact .inl (.inl h)
      · exact .inr h
  · intro v hv hm
    rcases List.mem_cons.mp hm with rfl | hm
    · exact nv.1 hv
    · exact h.dis v (.tail _ hv) hm
  · intro v hv
    have : v ≠ f.v := fun e => hv ((h.iff v).mpr (.inl (e ▸ .head _)))
    rw [upF_miss this]; exact h.w1 v hv
  · intro f' hf'
    have : f'.v ≠ f.v := fun e => nv.1 (e ▸ List.mem_map_of_mem hf')
    rw [upF_miss this]; exact h.w2 f' (.tail _ hf')
theorem DI.push (h : DI c0 C nodes suc fs fin seen w) {u : Str} {t : TV} {x : Nd} (hu : u ∉ seen) (ht : keyTV t = some u) (hx : x ∈ nodes) (hxu : x.v = u) (j : Int) :
    ∃ kvs, C[c0.length + 3]? = some (.dict kvs false) ∧ kvs.length = fs.length ∧ DI c0 (((((C.set (c0.length + 2) (.set (if seen.contains u then seen else seen ++ [u]) false)) ++ [Cell.iter x.b 0]).set (c0.length + 1) (.list ((fs.map fun f => TV.bm f.i "list_iterator.__next__").reverse ++ [TV.bm (C.set (c0.length + 2) (.set (if seen.contains u then seen else seen ++ [u]) false)).length "list_iterator.__next__"]))).set (c0.length + 3) (.dict (putD kvs u (.int j)) false)).set c0.length (.list ((fs.map (·.t)).reverse ++ [t])))
      nodes suc (⟨u, t, C.length, 0⟩ :: fs) fin (seen ++ [u]) (upF w u ((suc u).length + 1)) := by
  refine hide fun hG => ?_
  obtain ⟨kvs, k1, k2, k3⟩ := h.di
  refine hG ?_
  clear hG
  have hL := h.lt
  have hc : seen.contains u = false := by simpa using hu
  rw [hc, List.length_set]
  simp only [Bool.false_eq_true, if_false]
  have hns : u ∉ fs.map (·.v) := fun e => hu ((h.iff u).mpr (.inl e))
  have hnf : u ∉ fin := fun e => hu ((h.iff u).mpr (.inr e))
  have hk : ∀ p ∈ kvs, p.1 ≠ u := fun p hp e => hns (by
    have := List.mem_map_of_mem (f := (·.1)) hp
    rw [k2] at this
    exact e ▸ (List.mem_reverse.mp this))
  refine ⟨kvs, k1, by have := congrArg List.length k2; simpa using this, ?_⟩
  rw [putD_new hk]
  have off : ∀ {i : Nat} {c : Cell}, i ≠ c0.length → i ≠ c0.length + 1 → i ≠ c0.length + 2 → i ≠ c0.length + 3 → C[i]? = some c →
      (((((C.set (c0.length + 2) (.set (seen ++ [u]) false)) ++ [Cell.iter x.b 0]).set (c0.length + 1) (.list ((fs.map fun f => TV.bm f.i "list_iterator.__next__").reverse ++ [TV.bm C.length "list_iterator.__next__"]))).set (c0.length + 3) (.dict (kvs ++ [(u, .int j)]) false)).set c0.length (.list ((fs.map (·.t)).reverse ++ [t])))[i]? = some c :=
    fun h1 h2 h3 h4 e => set_off h1.symm (set_off h4.symm (set_off h2.symm (at_app (set_off h3.symm e))))
  have hil : ∀ f ∈ fs, f.i < C.length := fun f hf => by obtain ⟨_, _, y, _, _, l4⟩ := h.fr f hf; exact at_lt l4
  refine ⟨?_, ?_, ?_, ?_, ⟨kvs ++ [(u, .int j)], ?_, ?_, ?_⟩, ?_, ?_, ?_, ?_, ?_, ?_, ?_, h.topo, ?_, ?_⟩
  · intro i hl
    rw [← h.old i hl]
    obtain ⟨c, hc'⟩ : ∃ c, C[i]? = some c := ⟨_, List.getElem?_eq_getElem (by walk_at "om")⟩
    rw [hc']
    exact off (by walk_at "om") (by walk_at "om") (by walk_at "om") (by walk_at "om") hc'
  · rw [List.map_cons, List.reverse_cons]
    exact set_hit (set_off (by walk_at "om") (set_off (by walk_at "om") (at_app (set_off (by walk_at "om") h.st))))
  · rw [List.map_cons, List.reverse_cons]
    exact set_off (by walk_at "om") (set_off (by walk_at "om") (set_hit (at_app (set_off (by walk_at "om") h.it))))
  · exact set_off (by walk_at "om") (set_off (by walk_at "om") (set_off (by walk_at "om") (at_app (set_hit h.se))))
  · exact set_off (by walk_at "om") (set_hit (set_off (by walk_at "om") (at_app (set_off (by walk_at "om") k1))))
  · rw [List.map_append, k2]; simp
  · intro p hp
    rcases List.mem_append.mp hp with hp | hp
    · exact k3 p hp
    · rw [List.mem_singleton.mp hp]; exact ⟨j, rfl⟩
  · intro f' hf'
    rcases List.mem_cons.mp hf' with rfl | hf'
    · refine ⟨by show c0.length + 4 ≤ C.length; omega, ht, x, hx, hxu, ?_⟩
      refine set_off (by show c0.length ≠ C.length; omega) (set_off (by show c0.length + 3 ≠ C.length; omega) (set_off (by show c0.length + 1 ≠ C.length; omega) ?_))
      have := at_last (C.set (c0.length + 2) (.set (seen ++ [u]) false)) (Cell.iter x.b 0)
      rwa [List.length_set] at this
    · refine hide fun hG => ?_
      obtain ⟨l1, l2, y, hy, l3, l4⟩ := h.fr f' hf'
      refine hG ?_
      clear hG
      exact ⟨l1, l2, y, hy, l3, off (by walk_at "om") (by walk_at "om") (by walk_at "om") (by walk_at "om") l4⟩
  · rw [List.map_cons, List.nodup_cons]; exact ⟨hns, h.nv⟩
  · rw [List.map_cons, List.nodup_cons]
    refine ⟨fun hm => ?_, h.ni⟩
    refine hide fun hG => ?_
    obtain ⟨f', hf', e⟩ := List.mem_map.mp hm
    refine hG ?_
    clear hG
    have := hil f' hf'
    simp only at e; omega
  · intro v
    rw [List.mem_append, List.mem_singleton, h.iff v, List.map_cons, List.mem_cons]
    constructor
    · rintro ((h | h) | h)
      · exact .inl (.inr h)
      · exact .inr h
      · exact .inl (.inl h)
    · rintro ((h | h) | h)
      · exact .inr h
      · exact .inl (.inl h)
      · exact .inl (.inr h)
  · intro v hv
    rw [List.map_cons] at hv
    rcases List.mem_cons.mp hv with rfl | hv
    · exact hnf
    · exact h.dis v hv
  · rw [List.nodup_append]
    exact ⟨h.sn, by simp, fun a ha b hb e => by rw [List.mem_singleton] at hb; subst hb; subst e; exact hu ha⟩
  · intro v hv
    rcases List.mem_append.mp hv with hv | hv
    · exact h.sub v hv
    · rw [List.mem_singleton.mp hv, ← hxu]; exact List.mem_map_of_mem hx
  · intro v hv
    rw [List.mem_append, List.mem_singleton] at hv
    rw [upF_miss fun e => hv (.inr e)]; exact h.w1 v fun e => hv (.inl e)
  · intro f' hf'
    rcases List.mem_cons.mp hf' with rfl | hf'
    · show upF w u _ u = _
      rw [upF_hit]; simp
    · have : f'.v ≠ u := fun e => hns (e ▸ List.mem_map_of_mem hf')
      rw [upF_miss this]; exact h.w2 f' hf'
/-- what is left to do -/
noncomputable def todo (nodes : List Nd) (w : Str → Nat) : Nat := (nodes.map fun x => w x.v).sum
theorem todo_lt {v : Str} {c : Nat} (hv : v ∈ nodes.map (·.v)) (hc : c < w v) : todo nodes (upF w v c) < todo nodes w := by
  refine hide fun hG => ?_
  obtain ⟨x, hx, rfl⟩ := List.mem_map.mp hv
  refine hG ?_
  clear hG
  refine sum_lt (fun y hy => ?_) hx (by rw [upF_hit]; exact hc)
  by_cases e : y.v = x.v
  · rw [e, upF_hit]; exact Nat.le_of_lt hc
  · rw [upF_miss e]; exact Nat.le_refl _
end
end

section
open PySem PySem.W PyProof.Rows

theorem standsK {kvs : List (Str × TV)} {k : Nat} {cells : List Cell} (e : cells[k]? = some (.dict kvs true)) (h : kvs.length ≤ lim) : stands .keys cells (.ref k) (kvs.map fun p => .su p.1) := ⟨⟨k, kvs, rfl, e, rfl⟩, by rw [List.length_map]; exact h⟩
theorem walkK {kvs : List (Str × TV)} {k : Nat} {loc : Str → Option TV} {cells : List Cell} {Q : WK → List TV → ES → Prop} (e : cells[k]? = some (.dict kvs true)) (h : kvs.length ≤ lim) (q : Q .keys (kvs.map fun p => .su p.1) ⟨loc, cells⟩) : walks ⟨loc, cells⟩ (.ref k) Q := by
  have hl : lockTV cells (.ref k) = cells := by
    show lockAt cells k cells[k]? = _
    rw [e]
    exact set_same e
  refine ⟨.keys, kvs.map fun p => .su p.1, ?_, ?_⟩
  · show stands .keys (lockTV cells (.ref k)) (.ref k) _
    rw [hl]
    exact standsK e h
  · show Q .keys _ ⟨loc, lockTV cells (.ref k)⟩
    rw [hl]
    exact q
theorem v_del {cells : List Cell} {n : Nat} {kvs : List (Str × TV)} {k : TV} {x : Str} (e : cells[n]? = some (.dict kvs false)) (hk : keyTV k = some x) (h : (lookD kvs x).isSome = true ∧ kvs.length ≤ lim) : delItemTV cells (.ref n) k = some (cells.set n (.dict (delD kvs x) false)) := by
  show ((keyTV k).bind fun k => (cellDo cells[n]?).bind fun kvs => if (lookD kvs k).isSome ∧ kvs.length ≤ lim then some (cells.set n (.dict (delD kvs k) false)) else none) = _
  rw [hk, e]
  exact if_pos h
theorem pick_len {α : Type} (xs : List α) (lo hi : Option Int) : (pick xs lo hi none).length ≤ xs.length := by
  rw [pick_plain, List.length_take, List.length_drop]; omega
theorem frz_key {t : TV} {u : Str} (h : keyTV t = some u) (cells : List Cell) : frz t cells = (t, cells) := by
  cases t <;> first | rfl | cases h
theorem m_pop {G : TG} {cells : List Cell} {k : Nat} {xs : List TV} (e : cells[k]? = some (.list xs)) : methOf G cells (.ref k) "pop" = some (.g (.builtin "list.pop")) := by
  show methC G cells "pop" cells[k]? = _
  rw [e]
  kernel_rfl
theorem m_clear {G : TG} {cells : List Cell} {k : Nat} {xs : List TV} (e : cells[k]? = some (.list xs)) : methOf G cells (.ref k) "clear" = some (.g (.builtin "list.clear")) := by
  show methC G cells "clear" cells[k]? = _
  rw [e]
  kernel_rfl
theorem m_sadd {G : TG} {cells : List Cell} {k : Nat} {xs : List Str} {b : Bool} (e : cells[k]? = some (.set xs b)) : methOf G cells (.ref k) "add" = some (.g (.builtin "set.add")) := by
  show methC G cells "add" cells[k]? = _
  rw [e]
  kernel_rfl
theorem at_next {cells : List Cell} {k : Nat} {b p : Nat} (e : cells[k]? = some (.iter b p)) : attrTV G2 cells (.ref k) "__next__" = some (.bm k "list_iterator.__next__") := by
  show attrC G2 cells "__next__" k cells[k]? = _
  rw [e]
  show (if ("__next__" : Str) = "__next__" then some (TV.bm k "list_iterator.__next__") else none) = _
  exact if_pos rfl
theorem in_set {cells : List Cell} {k : Nat} {xs : List Str} {b : Bool} {t : TV} {u : Str} (e : cells[k]? = some (.set xs b)) (h : keyTV t = some u) : cmpTV cells .In t (.ref k) = some (xs.contains u) := v_inS e h
theorem in_dict {cells : List Cell} {k : Nat} {xs : List (Str × TV)} {b : Bool} {t : TV} {u : Str} (e : cells[k]? = some (.dict xs b)) (h : keyTV t = some u) : cmpTV cells .In t (.ref k) = some (lookD xs u).isSome := v_in e h
theorem item_dict {cells : List Cell} {k : Nat} {xs : List (Str × TV)} {b : Bool} {t v : TV} {u : Str} (e : cells[k]? = some (.dict xs b)) (h : keyTV t = some u) (hv : lookD xs u = some v) : itemTV cells (.ref k) t = some v := v_item e h hv
theorem lookD_key {kvs : List (Str × TV)} {u : Str} (h : u ∈ kvs.map (·.1)) : ∃ v, lookD kvs u = some v ∧ (u, v) ∈ kvs := by
  induction kvs with
  | nil => cases h
  | cons p r ih =>
    by_cases e : p.1 = u
    · exact ⟨p.2, if_pos e, e ▸ .head _⟩
    · exact (List.mem_cons.mp h).elim (fun h => absurd h.symm e) fun h => (ih h).imp fun w z => ⟨(if_neg e).trans z.1, .tail _ z.2⟩
structure Lc (loc : Str → Option TV) (m N : Nat) : Prop where
  h1 : loc "n2i" = some (.ref m)
  h2 : loc "stack" = some (.ref N)
  h3 : loc "itstack" = some (.ref (N + 1))
  h4 : loc "seen" = some (.ref (N + 2))
  h5 : loc "node2stacki" = some (.ref (N + 3))
noncomputable def bodyOf : Option Stmt → List Stmt
  | some (.For _ _ b _ _) => b
  | some (.While _ b _ _) => b
  | _ => []
noncomputable def stW : Stmt := ((bodyOf (bodyOf f_tsCyc.body[5]?)[1]?)[1]?).getD (.Pass ⟨0, 0, 0, 0⟩)
theorem DI.fsl {c0 C : List Cell} {nodes : List Nd} {suc : Str → List Str} {fs : List Fr} {fin seen : List Str} {w : Str → Nat} (D : DI c0 C nodes suc fs fin seen w) : fs.length ≤ nodes.length := by
  have := sub_len D.nv (m := nodes.map (·.v)) fun v hv => D.sub v ((D.iff v).mpr (.inl hv))
  simpa using this
theorem c_inner {n : Nat} {cells : List Cell} {k d m : Nat} {rd : TV} {p q : Int} {nodes : List Nd} {cnt : Str → Int} {suc : Str → List Str} {Kont : TF → ES → Prop} (s : So cells k d m rd p q nodes cnt suc true) (hn : nodes.length ≤ 900) (hl : ∀ u, (suc u).length ≤ 900)
    (hsu : ∀ x ∈ nodes, ∀ u ∈ suc x.v, u ∈ nodes.map (·.v)) {loc : Str → Option TV} {C : List Cell} {fs : List Fr} {fin seen : List Str} {w : Str → Nat} (D : DI cells C nodes suc fs fin seen w) (hd : Dn suc fin none fs) (L : Lc loc m cells.length)
    (hk1 : ∀ loc C fs fin' w' u t, DI cells C nodes suc fs fin' seen w' → Dn suc fin' (some u) fs → keyTV t = some u → u ∈ nodes.map (·.v) → (∀ v ∈ fin, v ∈ fin') → todo nodes w' < todo nodes w → Lc loc m cells.length → loc "node" = some t → Kont .next ⟨loc, C⟩)
    (hk2 : ∀ loc C fin' w', DI cells C nodes suc [] fin' seen w' → (∀ v ∈ fin, v ∈ fin') → Lc loc m cells.length → Kont .brk ⟨loc, C⟩) : StepS G2 (ev G2 (n + 60)) ⟨f_tsCyc.scope, true⟩ stW ⟨loc, C⟩ Kont := by
  refine .while_ ⟨fun K es => ∃ loc C fs fin' w', es = ⟨loc, C⟩ ∧ DI cells C nodes suc fs fin' seen w' ∧ Dn suc fin' none fs ∧ (∀ v ∈ fin, v ∈ fin') ∧ todo nodes w' = K ∧ K ≤ todo nodes w ∧ Lc loc m cells.length,
    todo nodes w, ⟨loc, C, fs, fin, w, rfl, D, hd, fun _ h => h, rfl, Nat.le_refl _, L⟩, ?_⟩
  clear D hd L
  clear loc C fs
  intro K es hJ0
  refine hide fun hG => ?_
  obtain ⟨loc, C, fs, fin', w', rfl, D, hd, hf, hK, hKw, h1, h2, h3, h4, h5⟩ := hJ0
  refine hG ?_
  clear hG
  have hfl := D.fsl
  have hnv := D.nv
  unfold whileTurn
  walk_at "go"
  cases fs with
  | nil =>
    refine opt_some (a := false) (tr_cell D.st (by simp)) (ifF (by rfl) ?_)
    walk_at "go"
    exact ⟨trivial, hk2 _ _ _ _ D hf ⟨h1, h2, h3, h4, h5⟩⟩
  | cons f fs =>
    refine hide fun hG => ?_
    obtain ⟨g1, g2, x, hx, g3, g4⟩ := D.fr f (.head _)
    refine hG ?_
    clear hG
    simp only [List.length_cons] at hfl
    refine opt_some (a := true) (by rw [tr_cell D.st (by simp [lim]; omega)]; simp) (ifT (by rfl) ?_)
    walk_at "go"
    refine .next ⟨rfl, fun _ _ => by rfl, ?_⟩
    walk_at "go"
    refine .item (fun _ _ => by rfl) ?_
    walk_at "go"
    refine ⟨_, rfl, ?_⟩
    refine opt_some (item_cellNeg (x := .bm f.i "list_iterator.__next__") D.it (by simp) (by simp [lim]; omega)) ?_
    have hsu' : C[x.b]? = some (.list ((suc f.v).map .str)) := by rw [D.old _ (at_lt (s.gr.suc x hx)), ← g3]; exact s.gr.suc x hx
    cases hp : (suc f.v)[f.p]? with
    | some u =>
      have hpl := at_lt hp
      have e1 : ((suc f.v).map TV.str)[f.p]? = some (.str u) := by rw [List.getElem?_map, hp]; rfl
      refine ⟨_, _, _, _, rfl, g4, hsu', .inl ⟨_, e1, ?_⟩⟩
      walk_at "go"
      have hw := D.w2 f (.head _)
      have hvn : f.v ∈ nodes.map (·.v) := by rw [← g3]; exact List.mem_map_of_mem hx
      refine hk1 _ _ _ _ _ u _ (D.next g4 _ rfl) ⟨by simp, by simpa using hp, fun j z a b => hd.1 j z a b, hd.2⟩ rfl (by rw [← g3] at hp; exact hsu x hx u (List.mem_of_getElem? hp)) hf
        (Nat.lt_of_lt_of_le (todo_lt hvn (by rw [hw]; omega)) (hK ▸ hKw)) ⟨by walk_at "lk", by walk_at "lk", by walk_at "lk", by walk_at "lk", by walk_at "lk"⟩ (by walk_at "lk")
    | none =>
      have e1 : ((suc f.v).map TV.str)[f.p]? = none := by rw [List.getElem?_map, hp]; rfl
      have hall : ∀ u ∈ suc f.v, u ∈ fin' := fun u hu => by
        obtain ⟨j, hj⟩ := List.mem_iff_getElem?.mp hu
        refine hd.1 j u ?_ hj
        have a := at_lt hj
        have b := List.getElem?_eq_none_iff.mp hp
        omega
      refine hide fun hG => ?_
      obtain ⟨kvs, k1, k2, k3⟩ := D.pop hall
      refine hG ?_
      clear hG
      refine ⟨_, _, _, _, rfl, g4, hsu', .inr ⟨e1, by walk_at "nm", ?_⟩⟩
      have hw := D.w2 f (.head _)
      have hvn : f.v ∈ nodes.map (·.v) := by rw [← g3]; exact List.mem_map_of_mem hx
      have off : ∀ {j : Nat} {o : Option Cell}, j < cells.length + 4 → C[j]? = o → (C.set f.i Cell.dead)[j]? = o := fun hj e => set_off (by walk_at "om") e
      have hst := off (by walk_at "om") D.st
      have hit := off (by walk_at "om") D.it
      have hk := off (by walk_at "om") k1
      have z1 : ((f :: fs).map (·.t)).reverse.dropLast = (fs.map (·.t)).reverse := by simp
      have z2 : ((f :: fs).map fun f => TV.bm f.i "list_iterator.__next__").reverse.dropLast = (fs.map fun f => TV.bm f.i "list_iterator.__next__").reverse := by simp
      have hll : ((f :: fs).map (·.t)).reverse.length ≤ lim := by simp [lim]; omega
      have hll2 : ((f :: fs).map fun f => TV.bm f.i "list_iterator.__next__").reverse.length ≤ lim := by simp [lim]; omega
      walk_at "go"
      refine opt_some (m_pop hst) (mNo (by kernel_rfl) (by decide) (by kernel_rfl) ?_)
      walk_at "go"
      refine callG (.meth (.pop (v := f.t) hst hll (by simp))) ?_
      rw [z1]
      refine hide fun hG => ?_
      obtain ⟨kv2, q1, q2, q3⟩ := D.di
      refine hG ?_
      clear hG
      obtain rfl : kv2 = kvs := by rw [k1] at q1; cases q1; rfl
      have hkl : kv2.length ≤ lim := by
        have := congrArg List.length q2
        simp only [List.length_map, List.length_reverse, List.length_cons] at this
        walk_at "om"
      refine opt_some (a := ((C.set f.i .dead).set cells.length (.list (fs.map (·.t)).reverse)).set (cells.length + 3) (.dict (delD kv2 f.v) false)) (by
        exact v_del (set_off (show cells.length ≠ cells.length + 3 by walk_at "om") hk) g2 ⟨k2, hkl⟩) ?_
      walk_at "go"
      have hit2 := set_off (i := cells.length + 3) (x := Cell.dict (delD kv2 f.v) false) (by walk_at "om") (set_off (i := cells.length) (x := Cell.list (fs.map (·.t)).reverse) (by walk_at "om") hit)
      refine opt_some (m_pop hit2) (mNo (by kernel_rfl) (by decide) (by kernel_rfl) ?_)
      walk_at "go"
      refine callG (.meth (.pop (v := .bm f.i "list_iterator.__next__") hit2 hll2 (by simp))) ?_
      rw [z2]
      walk_at "go"
      have hlt : todo nodes (upF w' f.v 0) < K := hK ▸ todo_lt hvn (by walk_at "om")
      refine ⟨trivial, _, hlt, _, _, fs, _, _, rfl, k3, ?_, fun v hv => .tail _ (hf v hv), rfl, Nat.le_trans (Nat.le_of_lt hlt) hKw, h1, h2, h3, h4, h5⟩
      exact Dn.drop (.head _) (hd.2.mono fun v hv => .tail _ hv)
end

section
open PySem PySem.W PyProof.Rows

theorem v_slice {o : TV} {xs : List TV} {lo hi : Option Int} {cells : List Cell} {a b : TV} (hs : strOf o = none) (hl : listOfTV cells o = some xs) (h : xs.length ≤ lim) (ha : intPart a = some lo) (hb : intPart b = some hi) : sliceTV cells o a b .none = some (.list (pick xs lo hi none)) := by
  have h0 : ¬ (none : Option Int) = some 0 := nofun
  show ((intPart a).bind fun lo => (intPart b).bind fun hi => if (none : Option Int) = some 0 then none else sliceAt cells o lo hi none) = _
  rw [ha, hb]
  show (if (none : Option Int) = some 0 then none else sliceAt cells o lo hi none) = _
  rw [if_neg h0]
  unfold sliceAt
  rw [hs]
  show ((listOfTV cells o).bind fun xs => if xs.length ≤ lim then some (TV.list (pick xs lo hi none)) else none) = _
  rw [hl]
  exact if_pos h
theorem c_cyc {n : Nat} {cells : List Cell} {k d m : Nat} {rd : TV} {p q : Int} {nodes : List Nd} {cnt : Str → Int} {suc : Str → List Str} {Q : TV → List Cell → Prop} (s : So cells k d m rd p q nodes cnt suc true) (hn : nodes.length ≤ 900) (hl : ∀ u, (suc u).length ≤ 900)
    (hsu : ∀ x ∈ nodes, ∀ u ∈ suc x.v, u ∈ nodes.map (·.v)) (q1 : ∀ C l, (∀ i, i < cells.length → C[i]? = cells[i]?) → Topo suc l → (∀ x ∈ nodes, x.v ∈ l) → Q .none C)
    (q2 : ∀ C xs u, xs ≠ [] → xs.length ≤ lim → Way suc u u → (∀ i, i < cells.length → C[i]? = cells[i]?) → Q (.list xs) C) : (ev G2 (n + 90)).c true (.fn "TS._find_cycle") [.ref k] cells Q := by
  refine cFn (f := f_tsCyc) (by kernel_rfl) (bindS (l := [("self", .ref k)]) (by kernel_rfl) (by kernel_rfl) (by kernel_rfl) ?_)
  walk_at "go"
  refine opt_some (get_attr s.ob s.ns (by kernel_rfl) (by walk_at "lk") rfl) ?_
  walk_at "go"
  refine .asg (fun _ => by rfl) (newList ?_)
  walk_at "go"
  refine .asg (fun _ => by rfl) (newList ?_)
  walk_at "go"
  refine callG .set ?_
  walk_at "go"
  have e0 : (cells ++ [Cell.list []]).length = cells.length + 1 := by simp
  have e1 : (cells ++ [Cell.list []] ++ [Cell.list []]).length = cells.length + 2 := by simp
  have e2 : (cells ++ [Cell.list []] ++ [Cell.list []] ++ [Cell.set [] false]).length = cells.length + 3 := by simp
  have e3 : cells ++ [Cell.list []] ++ [Cell.list []] ++ [Cell.set [] false] ++ [Cell.dict [] false] = cells ++ [Cell.list [], Cell.list [], Cell.set [] false, Cell.dict [] false] := by simp
  rw [e0, e1, e2, e3]
  have D0 : DI cells (cells ++ [Cell.list [], Cell.list [], Cell.set [] false, Cell.dict [] false]) nodes suc [] [] [] (fun v => (suc v).length + 2) :=
    ⟨fun i h => List.getElem?_append_left h, by simp, by simp, by simp, ⟨[], by simp, rfl, fun _ h => (nomatch h)⟩, fun _ h => (nomatch h), List.nodup_nil, List.nodup_nil, fun v => by simp, fun _ h => (nomatch h), List.nodup_nil, fun _ h => (nomatch h), .nil, fun _ _ => rfl, fun _ h => (nomatch h)⟩
  generalize cells ++ [Cell.list [], Cell.list [], Cell.set [] false, Cell.dict [] false] = C0 at *
  refine .for_ rfl (fun _ _ => by rfl) ?_
  walk_at "go"
  have hkl : (nodes.map fun x => (x.v, TV.ref x.a)).length ≤ lim := by rw [List.length_map]; walk_at "om"
  have dic : ∀ C : List Cell, (∀ i, i < cells.length → C[i]? = cells[i]?) → C[m]? = some (.dict (nodes.map fun x => (x.v, TV.ref x.a)) true) := fun C h => by rw [h m (at_lt s.gr.dict)]; exact s.gr.dict
  refine walkK (dic _ D0.old) hkl ?_
  have hvs : (nodes.map fun x => (x.v, TV.ref x.a)).map (fun p => TV.su p.1) = (nodes.map (·.v)).map TV.su := by rw [List.map_map, List.map_map]; rfl
  have hst : ∀ C : List Cell, (∀ i, i < cells.length → C[i]? = cells[i]?) → stands .keys C (.ref m) ((nodes.map (·.v)).map TV.su) := fun C h => by rw [← hvs]; exact standsK (dic C h) hkl
  rw [hvs]
  refine for_inv (fun i es => ∃ loc C fin seen w, es = ⟨loc, C⟩ ∧ DI cells C nodes suc [] fin seen w ∧ (∀ v ∈ (nodes.map (·.v)).take i, v ∈ fin) ∧
      loc "n2i" = some (.ref m) ∧ loc "stack" = some (.ref cells.length) ∧ loc "itstack" = some (.ref (cells.length + 1)) ∧ loc "seen" = some (.ref (cells.length + 2)) ∧ loc "node2stacki" = some (.ref (cells.length + 3)))
    (fun i es h => by obtain ⟨_, C, _, _, _, rfl, h, _⟩ := h; exact hst C h.old) ?hend ?step ⟨_, C0, _, _, _, rfl, D0, by simp, by walk_at "lk", by walk_at "lk", by walk_at "lk", by walk_at "lk", by walk_at "lk"⟩
  case hend =>
    intro es hJ0
    refine hide fun hG => ?_
    obtain ⟨loc, C, fin, seen, w, rfl, D, hf, _⟩ := hJ0
    refine hG ?_
    clear hG
    walk_at "go"
    refine q1 C fin D.old D.topo fun x hx => hf _ ?_
    rw [List.length_map, List.take_length]; exact List.mem_map_of_mem hx
  case step =>
    intro i x es hx hJ0 T hT1 hT2 hT3 hT4
    refine hide fun hG => ?_
    obtain ⟨loc, C, fin, seen, w, rfl, D, hf, h1, h2, h3, h4, h5⟩ := hJ0
    refine hG ?_
    clear hG
    refine hide fun hG => ?_
    obtain ⟨v, hv, rfl⟩ := map_at hx
    refine hG ?_
    clear hG
    have hvn : v ∈ nodes.map (·.v) := List.mem_of_getElem? hv
    refine .name (sto (by kernel_rfl) ?_)
    walk_at "go"
    refine opt_some (in_set D.se rfl) ?_
    cases hc : seen.contains v with
    | true =>
      walk_at "go"
      refine hT2 _ ⟨_, C, fin, seen, w, rfl, D, ?_, by walk_at "lk", by walk_at "lk", by walk_at "lk", by walk_at "lk", by walk_at "lk"⟩
      intro u hu
      rw [take_step hv] at hu
      rcases List.mem_append.mp hu with hu | hu
      · exact hf u hu
      · rw [List.mem_singleton.mp hu]
        have := (D.iff v).mp (by simpa using hc)
        simpa using this
    | false =>
      walk_at "go"
      refine .while_ ⟨fun K es => ∃ loc C fs fin seen w u t, es = ⟨loc, C⟩ ∧ DI cells C nodes suc fs fin seen w ∧ Dn suc fin (some u) fs ∧ keyTV t = some u ∧ u ∈ nodes.map (·.v) ∧ (∀ v ∈ (nodes.map (·.v)).take i, v ∈ fin) ∧ (v ∈ seen ∨ u = v) ∧ todo nodes w = K ∧
        loc "n2i" = some (.ref m) ∧ loc "stack" = some (.ref cells.length) ∧ loc "itstack" = some (.ref (cells.length + 1)) ∧ loc "seen" = some (.ref (cells.length + 2)) ∧ loc "node2stacki" = some (.ref (cells.length + 3)) ∧ loc "node" = some t,
        todo nodes w, ⟨_, C, [], fin, seen, w, v, .su v, rfl, D, trivial, rfl, hvn, hf, .inr rfl, rfl, by walk_at "lk", by walk_at "lk", by walk_at "lk", by walk_at "lk", by walk_at "lk", by walk_at "lk"⟩, ?_⟩
      clear h1 h2 h3 h4 h5 hf hc D
      clear fin seen w loc C
      intro K es hJ0
      refine hide fun hG => ?_
      obtain ⟨loc, C, fs, fin, seen, w, u, t, rfl, D, hd, ht, hu, hf, hvs', hK, h1, h2, h3, h4, h5, h6⟩ := hJ0
      refine hG ?_
      clear hG
      unfold whileTurn
      walk_at "go"
      refine opt_some (a := true) rfl (ifT (by rfl) ?_)
      walk_at "go"
      refine opt_some (in_set D.se ht) ?_
      cases hc : seen.contains u with
      | true =>
        have hus : u ∈ seen := by simpa using hc
        walk_at "go"
        refine hide fun hG => ?_
        obtain ⟨kvs, k1, k2, k3⟩ := D.di
        refine hG ?_
        clear hG
        by_cases hfs : u ∈ fs.map (·.v)
        · obtain ⟨y, hy1, hy2⟩ := lookD_key (kvs := kvs) (u := u) (by rw [k2]; simpa using hfs)
          obtain ⟨j, hj⟩ := k3 _ hy2
          simp only at hj
          subst hj
          refine opt_some (a := true) (by rw [in_dict k1 ht, hy1]; rfl) ?_
          walk_at "go"
          refine .slice ?_
          dsimp only [optE]
          walk_at "go"
          refine .item (fun _ _ => by rfl) ?_
          walk_at "go"
          refine opt_some (item_dict k1 ht hy1) ?_
          have hfl : (fs.map (·.t)).reverse.length ≤ 900 := by
            have := D.fsl
            simp only [List.length_map, List.length_reverse]; omega
          refine opt_some (a := .list (pick (fs.map (·.t)).reverse (some j) none none)) (v_slice rfl (v_list D.st) (by walk_at "om") rfl rfl) ?_
          walk_at "go"
          refine ⟨by simp [lim], ?_⟩
          have hfz : frzs [t] C = ([t], C) := by show ([(frz t C).1], (frz t C).2) = _; rw [frz_key ht]
          dsimp only
          rw [hfz]
          have hpl := pick_len (fs.map (·.t)).reverse (some j) none
          refine ⟨_, .addl rfl rfl (by simp only [lim, List.length_singleton]; omega), ?_⟩
          walk_at "go"
          refine hT4 _ _ ?_
          walk_at "go"
          refine hide fun hG => ?_
          obtain ⟨f, hf1, hf2⟩ := List.mem_map.mp hfs
          refine hG ?_
          clear hG
          refine q2 C _ u (by simp) (by simp only [lim, List.length_append, List.length_singleton]; omega) ?_ D.old
          have := hd.way f hf1
          rwa [hf2] at this
        · have hl0 : lookD kvs u = none := lookD_none fun p hp e => hfs (by
            have := List.mem_map_of_mem (f := (·.1)) hp
            rw [k2] at this
            exact e ▸ (List.mem_reverse.mp this))
          refine opt_some (a := false) (by rw [in_dict k1 ht, hl0]; rfl) ?_
          walk_at "go"
          have huf : u ∈ fin := ((D.iff u).mp hus).resolve_left hfs
          have hvn' : v ∈ seen := by
            rcases hvs' with h | rfl
            · exact h
            · exact hus
          refine c_inner s hn hl hsu D (hd.drop huf) ⟨h1, h2, h3, h4, h5⟩ ?_ ?_
          · intro loc C fs' fin' w' u' t' D' hd' ht' hu' hff hlt hJ0 h6
            refine hide fun hG => ?_
            obtain ⟨h1, h2, h3, h4, h5⟩ := hJ0
            refine hG ?_
            clear hG
            walk_at "go"
            exact ⟨_, hK ▸ hlt, _, _, fs', fin', seen, w', u', t', rfl, D', hd', ht', hu', fun v hv => hff v (hf v hv), .inl hvn', rfl, h1, h2, h3, h4, h5, h6⟩
          · intro loc C fin' w' D' hff hJ0
            refine hide fun hG => ?_
            obtain ⟨h1, h2, h3, h4, h5⟩ := hJ0
            refine hG ?_
            clear hG
            refine hT1 _ ⟨_, _, fin', seen, w', rfl, D', ?_, h1, h2, h3, h4, h5⟩
            intro z hz
            rw [take_step hv] at hz
            rcases List.mem_append.mp hz with hz | hz
            · exact hff z (hf z hz)
            · rw [List.mem_singleton.mp hz]
              have := (D'.iff v).mp hvn'
              simpa using this
      | false =>
        have hus : u ∉ seen := by simpa using hc
        walk_at "go"
        refine hide fun hG => ?_
        obtain ⟨x, hx, hxu⟩ := List.mem_map.mp hu
        refine hG ?_
        clear hG
        have hsl := sub_len D.sn D.sub
        rw [List.length_map] at hsl
        have hfl := D.fsl
        have hL := D.lt
        refine hide fun hG => ?_
        obtain ⟨kvs, k1, k2, D'⟩ := D.push hus ht hx hxu (((fs.map (·.t)).reverse.length : Nat) : Int)
        refine hG ?_
        clear hG
        generalize hse : (Cell.set (if seen.contains u then seen else seen ++ [u]) false) = ce at D'
        refine opt_some (m_sadd D.se) (mNo (by kernel_rfl) (by decide) (by kernel_rfl) ?_)
        walk_at "go"
        refine callG (.meth (.add D.se ht (by walk_at "om"))) ?_
        rw [hse]
        have off : ∀ {j : Nat} {c : Cell}, j ≠ cells.length + 2 → C[j]? = some c → (C.set (cells.length + 2) ce)[j]? = some c := fun hj e => set_off hj.symm e
        have i1 := off (by walk_at "om") D.it
        walk_at "go"
        refine opt_some (m_append i1) (mNo (by kernel_rfl) (by decide) (by kernel_rfl) ?_)
        walk_at "go"
        refine .item (fun _ _ => by rfl) ?_
        walk_at "go"
        have hml := at_lt s.gr.dict
        have hal := at_lt (s.gr.inf x hx)
        have hbl := at_lt (s.gr.suc x hx)
        refine opt_some (item_dict (off (by walk_at "om") (dic C D.old)) ht (by rw [← hxu]; exact lookD_mem s.gr.nd hx)) ?_
        refine opt_some (got_slot (i := 2) (off (by walk_at "om") (by rw [D.old _ hal]; exact s.gr.inf x hx)) (by kernel_rfl) rfl rfl) ?_
        walk_at "go"
        refine callG (.iter (off (by walk_at "om") (by rw [D.old _ hbl]; exact s.gr.suc x hx))) ?_
        refine opt_some (at_next (at_last ..)) ?_
        walk_at "go"
        refine callG (.meth (.append (at_app i1) (by simp [lim]; omega))) ?_
        walk_at "go"
        have s1 : ∀ {j : Nat} {c c' : Cell} {l : List Cell}, j ≠ cells.length + 1 → j ≠ cells.length + 2 → C[j]? = some c → ((C.set (cells.length + 2) ce ++ l).set (cells.length + 1) c')[j]? = some c := fun h1 h2 e => set_off h1.symm (at_app (off h2 e))
        refine callG (.fn rfl (.len (v := .ref cells.length) (xs := (fs.map (·.t)).reverse) (v_seq (s1 (by walk_at "om") (by walk_at "om") D.st)) (by simp [lim]; omega))) ?_
        walk_at "go"
        refine opt_some (a := ((C.set (cells.length + 2) ce ++ [Cell.iter x.b 0]).set (cells.length + 1) (.list ((fs.map fun f => TV.bm f.i "list_iterator.__next__").reverse ++ [TV.bm (C.set (cells.length + 2) ce).length "list_iterator.__next__"]))).set (cells.length + 3) (.dict (putD kvs u (.int (((fs.map (·.t)).reverse.length : Nat) : Int))) false)) (by
          exact v_set (s1 (by walk_at "om") (by walk_at "om") k1) ht (by walk_at "om")) ?_
        walk_at "go"
        have st1 := set_off (i := cells.length + 3) (x := Cell.dict (putD kvs u (.int (((fs.map (·.t)).reverse.length : Nat) : Int))) false) (by walk_at "om") (s1 (l := [Cell.iter x.b 0]) (c' := .list ((fs.map fun f => TV.bm f.i "list_iterator.__next__").reverse ++ [TV.bm (C.set (cells.length + 2) ce).length "list_iterator.__next__"])) (by walk_at "om") (by walk_at "om") D.st)
        refine opt_some (m_append st1) (mNo (by kernel_rfl) (by decide) (by kernel_rfl) ?_)
        walk_at "go"
        refine callG (.meth (.append st1 (by simp [lim]; omega))) ?_
        walk_at "go"
        have hlt : todo nodes (upF w u ((suc u).length + 1)) < todo nodes w := todo_lt hu (by rw [D.w1 u hus]; omega)
        have hvn' : v ∈ seen ++ [u] := by
          rcases hvs' with h | rfl
          · exact List.mem_append_left _ h
          · simp
        refine c_inner s hn hl hsu D' ⟨fun j z a _ => absurd a (Nat.not_lt_zero _), hd⟩ ⟨h1, h2, h3, h4, h5⟩ ?_ ?_
        · intro loc C fs' fin' w' u' t' D' hd' ht' hu' hff hlt' hJ0 h6
          refine hide fun hG => ?_
          obtain ⟨h1, h2, h3, h4, h5⟩ := hJ0
          refine hG ?_
          clear hG
          walk_at "go"
          exact ⟨_, hK ▸ Nat.lt_trans hlt' hlt, _, _, fs', fin', _, w', u', t', rfl, D', hd', ht', hu', fun v hv => hff v (hf v hv), .inl hvn', rfl, h1, h2, h3, h4, h5, h6⟩
        · intro loc C fin' w' D' hff hJ0
          refine hide fun hG => ?_
          obtain ⟨h1, h2, h3, h4, h5⟩ := hJ0
          refine hG ?_
          clear hG
          refine hT1 _ ⟨_, _, fin', _, w', rfl, D', ?_, h1, h2, h3, h4, h5⟩
          intro z hz
          rw [take_step hv] at hz
          rcases List.mem_append.mp hz with hz | hz
          · exact hff z (hf z hz)
          · rw [List.mem_singleton.mp hz]
            have := (D'.iff v).mp hvn'
            simpa using this
end

section
open PySem PySem.W PyProof.Rows

/-- one clause of a comprehension over a mapped list -/
theorem gen_fmM {r : Rec} {cx : Cx} {α : Type} {h : α → TV} {ys : List α} {g : Comprehension} {elt : Expr} {k : WK} {src : TV} {Q : List TV → ES → Prop} (f : α → Option TV) (I : ES → Prop) (hst : ∀ es, I es → stands k es.cells src (ys.map h))
    (step : ∀ y ∈ ys, ∀ es, I es → ∀ T : Option TV → ES → Prop, (∀ es', I es' → T (f y) es') → BindT cx g.target (h y) es fun es => evIfs r cx g.ifs es fun b es => if b then r.e cx elt es fun v es => T (some v) es else T none es)
    {es : ES} (hI : I es) (hl : ys.length ≤ lim) (q : ∀ es', I es' → Q (ys.filterMap f) es') : genLoop r cx g k src (ys.map h) (evGens r cx elt []) (ys.map h) es [] Q := by
  have key : ∀ (zs : List α) (acc : List TV) (es : ES), (∀ y ∈ zs, y ∈ ys) → acc.length + zs.length ≤ lim → I es → (∀ es', I es' → Q (acc ++ zs.filterMap f) es') → genLoop r cx g k src (ys.map h) (evGens r cx elt []) (zs.map h) es acc Q := by
    intro zs
    induction zs with
    | nil =>
      intro acc es _ _ hI hq
      exact ⟨hst es hI, by simpa using hq es hI⟩
    | cons y zs ih =>
      intro acc es hy hlen hI hq
      refine ⟨hst es hI, ?_⟩
      have ih' : ∀ es', I es' → (match f y with
          | some v => (acc ++ [v]).length ≤ lim ∧ genLoop r cx g k src (ys.map h) (evGens r cx elt []) (zs.map h) es' (acc ++ [v]) Q
          | none => genLoop r cx g k src (ys.map h) (evGens r cx elt []) (zs.map h) es' acc Q) := by
        intro es' hI'
        simp only [List.length_cons] at hlen
        cases e : f y with
        | none => exact ih acc es' (fun z hz => hy z (.tail _ hz)) (by walk_at "om") hI' fun es'' h'' => by have := hq es'' h''; rwa [List.filterMap_cons, e] at this
        | some v =>
          refine ⟨by simp; omega, ih (acc ++ [v]) es' (fun z hz => hy z (.tail _ hz)) (by simp; omega) hI' fun es'' h'' => ?_⟩
          have := hq es'' h''
          rw [List.filterMap_cons, e] at this
          simpa using this
      exact step y (hy y (.head _)) es hI (fun o es' => match o with
        | some v => (acc ++ [v]).length ≤ lim ∧ genLoop r cx g k src (ys.map h) (evGens r cx elt []) (zs.map h) es' (acc ++ [v]) Q
        | none => genLoop r cx g k src (ys.map h) (evGens r cx elt []) (zs.map h) es' acc Q) ih'
  exact key ys [] es (fun _ h => h) (by simpa using hl) hI (by simpa using q)
theorem m_values {G : TG} {cells : List Cell} {k : Nat} {xs : List (Str × TV)} {b : Bool} (e : cells[k]? = some (.dict xs b)) : methOf G cells (.ref k) "values" = some (.g (.builtin "dict.values")) := by
  show methC G cells "values" cells[k]? = _
  rw [e]
  kernel_rfl
theorem standsV {kvs : List (Str × TV)} {k : Nat} {cells : List Cell} (e : cells[k]? = some (.dict kvs true)) (h : kvs.length ≤ lim) : stands .vals cells (.vals k) (kvs.map (·.2)) := ⟨⟨k, kvs, rfl, e, rfl⟩, by rw [List.length_map]; exact h⟩
theorem walkV {kvs : List (Str × TV)} {k : Nat} {b : Bool} {loc : Str → Option TV} {cells : List Cell} {Q : WK → List TV → ES → Prop} (e : cells[k]? = some (.dict kvs b)) (h : kvs.length ≤ lim) (q : Q .vals (kvs.map (·.2)) ⟨loc, cells.set k (.dict kvs true)⟩) : walks ⟨loc, cells⟩ (.vals k) Q := by
  have hl : lockTV cells (.vals k) = cells.set k (.dict kvs true) := by
    show lockAt cells k cells[k]? = _
    rw [e]
    rfl
  refine ⟨.vals, kvs.map (·.2), ?_, ?_⟩
  · show stands .vals (lockTV cells (.vals k)) (.vals k) _
    rw [hl]
    exact standsV (set_hit e) h
  · show Q .vals _ ⟨loc, lockTV cells (.vals k)⟩
    rw [hl]
    exact q
theorem So.lock {cells : List Cell} {k d m : Nat} {rd : TV} {p q : Int} {nodes : List Nd} {cnt : Str → Int} {suc : Str → List Str} {lk : Bool} (s : So cells k d m rd p q nodes cnt suc lk) : So (cells.set m (.dict (nodes.map fun x => (x.v, TV.ref x.a)) true)) k d m rd p q nodes cnt suc true :=
  ⟨set_off s.km s.ob, set_off s.md s.ns, ⟨set_hit s.gr.dict, fun x hx => set_off (s.gr.ma hx).symm (s.gr.inf x hx), fun x hx => set_off (s.gr.mb hx).symm (s.gr.suc x hx), s.gr.binj, s.gr.nd⟩, s.z⟩
/-- those that are ready at first -/
noncomputable def rdy0 (nodes : List Nd) (cnt : Str → Int) : List Str := (nodes.map (·.v)).filter fun v => cnt v == 0
theorem rdy_fm (nodes : List Nd) (cnt : Str → Int) : nodes.filterMap (fun x : Nd => if cnt x.v == 0 then some (TV.str x.v) else none) = (rdy0 nodes cnt).map .str := by
  unfold rdy0
  induction nodes with
  | nil => rfl
  | cons a l ih =>
    rw [List.filterMap_cons, List.map_cons, List.filter_cons, ih]
    cases h : cnt a.v == 0 <;> simp
theorem c_prep {n : Nat} {cells : List Cell} {k d m : Nat} {p q : Int} {nodes : List Nd} {cnt : Str → Int} {suc : Str → List Str} {Q : TV → List Cell → Prop} (s : So cells k d m .none p q nodes cnt suc false) (hn : nodes.length ≤ 900) (hl : ∀ u, (suc u).length ≤ 900)
    (hsu : ∀ x ∈ nodes, ∀ u ∈ suc x.v, u ∈ nodes.map (·.v)) (hac : ∀ u, ¬ Way suc u u)
    (h : ∀ C r, So C k d m (.ref r) p q nodes cnt suc true → C[r]? = some (.list ((rdy0 nodes cnt).map .str)) → (∀ x ∈ nodes, r ≠ x.b) → Q .none C) : (ev G2 (n + 120)).c true (.fn "TS.prepare") [.ref k] cells Q := by
  refine cFn (f := f_tsPrep) (by kernel_rfl) (bindS (l := [("self", .ref k)]) (by kernel_rfl) (by kernel_rfl) (by kernel_rfl) ?_)
  walk_at "go"
  refine opt_some (get_attr s.ob s.ns (by kernel_rfl) (by walk_at "lk") rfl) ?_
  walk_at "go"
  refine opt_some (a := false) rfl ?_
  walk_at "go"
  refine .asg (fun _ => by rfl) (.lcomp ⟨rfl, by kernel_rfl, fun _ _ => by rfl, by kernel_rfl, by decide, ?_⟩)
  walk_at "go"
  refine opt_some (get_attr s.ob s.ns (by kernel_rfl) (by walk_at "lk") rfl) ?_
  refine opt_some (m_values s.gr.dict) (mNo (by kernel_rfl) (by decide) (by kernel_rfl) ?_)
  walk_at "go"
  refine callG (.meth (.values s.gr.dict)) ?_
  have hnl : nodes.length ≤ lim := by walk_at "om"
  refine walkV s.gr.dict (by rw [List.length_map]; exact hnl) ?_
  have s1 := s.lock
  generalize cells.set m (.dict (nodes.map fun x => (x.v, TV.ref x.a)) true) = c1 at *
  have hst := standsV s1.gr.dict (by rw [List.length_map]; exact hnl)
  rw [List.map_map] at hst ⊢
  refine gen_fmM (fun x => if cnt x.v == 0 then some (.str x.v) else none) (fun es => ∃ loc, es = ⟨loc, c1⟩) (fun es h => by obtain ⟨_, rfl⟩ := h; exact hst) ?step ⟨_, rfl⟩ hnl ?fin
  case step =>
    rintro x hx es ⟨loc, rfl⟩ T hT
    refine .name (sto (by kernel_rfl) ?_)
    walk_at "go"
    refine opt_some (got_slot (i := 1) (s1.gr.inf x hx) (by kernel_rfl) rfl rfl) ?_
    walk_at "go"
    refine opt_some eq_int ?_
    cases hc : cnt x.v == 0 with
    | true =>
      rw [hc] at hT
      walk_at "go"
      refine opt_some (got_slot (i := 0) (s1.gr.inf x hx) (by kernel_rfl) rfl rfl) ?_
      exact hT _ ⟨_, rfl⟩
    | false =>
      rw [hc] at hT
      walk_at "go"
      exact hT _ ⟨_, rfl⟩
  case fin =>
    rintro es ⟨loc, rfl⟩
    have hfl := List.length_filterMap_le (fun x : Nd => if cnt x.v == 0 then some (TV.str x.v) else none) nodes
    refine ⟨by walk_at "om", ?_⟩
    rw [rdy_fm]
    refine ⟨_, rfl, ?_⟩
    walk_at "go"
    have s2 := s1.app [Cell.list ((rdy0 nodes cnt).map .str)]
    refine ex_some (set_attr s2.ob s2.ns (by kernel_rfl) (by simp)) ?_
    have s3 := s2.setNs (.ref c1.length) p q
    have s4 : (c1 ++ [Cell.list ((rdy0 nodes cnt).map .str)]).set d (Cell.ns (putD [("_node2info", TV.ref m), ("_ready_nodes", TV.none), ("_npassedout", TV.int p), ("_nfinished", TV.int q)] "_ready_nodes" (TV.ref c1.length))) = (c1 ++ [Cell.list ((rdy0 nodes cnt).map .str)]).set d (.ns [("_node2info", .ref m), ("_ready_nodes", .ref c1.length), ("_npassedout", .int p), ("_nfinished", .int q)]) := by kernel_rfl
    rw [s4]
    have hr := set_off (i := d) (x := .ns [("_node2info", .ref m), ("_ready_nodes", .ref c1.length), ("_npassedout", .int p), ("_nfinished", .int q)]) (by have := at_lt s1.ns; omega) (at_last c1 (Cell.list ((rdy0 nodes cnt).map .str)))
    generalize (c1 ++ [Cell.list ((rdy0 nodes cnt).map .str)]).set d (.ns [("_node2info", .ref m), ("_ready_nodes", .ref c1.length), ("_npassedout", .int p), ("_nfinished", .int q)]) = c2 at *
    walk_at "go"
    refine opt_some (m_obj (f := "TS._find_cycle") s3.ob s3.ns (by kernel_rfl) (by kernel_rfl)) (mNo (by kernel_rfl) (by decide) (by kernel_rfl) ?_)
    walk_at "go"
    refine callF (by kernel_rfl) (c_cyc s3 hn hl hsu (fun C l hold _ _ => ?_) fun C xs u _ _ hw _ => absurd hw (hac u))
    walk_at "go"
    refine opt_some (a := false) rfl ?_
    walk_at "go"
    exact h C c1.length (s3.frame hold) (by rw [hold _ (at_lt hr)]; exact hr) fun x hx => by have := at_lt (s1.gr.suc x hx); omega
end

section
open PySem PySem.W PyProof.Rows

theorem So.node {C : List Cell} {k d m : Nat} {rd : TV} {p q : Int} {nodes : List Nd} {cnt : Str → Int} {suc : Str → List Str} {lk : Bool} (s : So C k d m rd p q nodes cnt suc lk) {v : Str} (hv : v ∈ nodes.map (·.v)) : ∃ x ∈ nodes, x.v = v ∧ lookD (nodes.map fun x => (x.v, TV.ref x.a)) v = some (.ref x.a) := by
  refine hide fun hG => ?_
  obtain ⟨x, hx, rfl⟩ := List.mem_map.mp hv
  refine hG ?_
  clear hG
  exact ⟨x, hx, rfl, lookD_mem s.gr.nd hx⟩
theorem c_active {n : Nat} {C : List Cell} {k d m r : Nat} {p : Int} {nodes : List Nd} {cnt : Str → Int} {suc : Str → List Str} {R : List Str} {Q : TV → List Cell → Prop} (s : So C k d m (.ref r) p p nodes cnt suc true) (hr : C[r]? = some (.list (R.map .str))) (hl : R.length ≤ lim)
    (h : Q (.bool (!R.isEmpty)) C) : (ev G2 (n + 60)).c true (.fn "TS.is_active") [.ref k] C Q := by
  refine cFn (f := f_tsActive) (by kernel_rfl) (bindS (l := [("self", .ref k)]) (by kernel_rfl) (by kernel_rfl) (by kernel_rfl) ?_)
  walk_at "go"
  refine opt_some (get_attr s.ob s.ns (by kernel_rfl) (by walk_at "lk") rfl) ?_
  walk_at "go"
  refine opt_some (a := false) rfl ?_
  walk_at "go"
  refine opt_some (get_attr s.ob s.ns (by kernel_rfl) (by walk_at "lk") rfl) ?_
  walk_at "go"
  refine opt_some (get_attr s.ob s.ns (by kernel_rfl) (by walk_at "lk") rfl) ?_
  refine opt_some (a := false) (by show some (decide _) = _; simp) ?_
  refine opt_some (a := false) rfl ?_
  walk_at "go"
  refine opt_some (get_attr s.ob s.ns (by kernel_rfl) (by walk_at "lk") rfl) ?_
  walk_at "go"
  refine callG (.type rfl (.bool (xs := R.map .str) (v_list hr) (by rw [List.length_map]; exact hl))) ?_
  walk_at "go"
  rw [List.isEmpty_map]
  exact h
theorem c_ready {n : Nat} {C : List Cell} {k d m r : Nat} {p q : Int} {nodes : List Nd} {cnt : Str → Int} {suc : Str → List Str} {R : List Str} {Q : TV → List Cell → Prop} (s : So C k d m (.ref r) p q nodes cnt suc true) (hr : C[r]? = some (.list (R.map .str))) (hl : R.length ≤ 900) (hR : ∀ v ∈ R, v ∈ nodes.map (·.v)) (hrb : ∀ x ∈ nodes, r ≠ x.b)
    (h : ∀ C', So C' k d m (.ref r) (p + (R.length : Nat)) q nodes (fun u => if u ∈ R then -1 else cnt u) suc true → C'[r]? = some (.list []) → (∀ i, i ≠ d → i ≠ r → (∀ x ∈ nodes, i ≠ x.a) → C'[i]? = C[i]?) → Q (.tup (R.map .str)) C') :
    (ev G2 (n + 60)).c true (.fn "TS.get_ready") [.ref k] C Q := by
  refine cFn (f := f_tsReady) (by kernel_rfl) (bindS (l := [("self", .ref k)]) (by kernel_rfl) (by kernel_rfl) (by kernel_rfl) ?_)
  have hRl : (R.map TV.str).length ≤ lim := by rw [List.length_map]; walk_at "om"
  walk_at "go"
  refine opt_some (get_attr s.ob s.ns (by kernel_rfl) (by walk_at "lk") rfl) ?_
  walk_at "go"
  refine opt_some (a := false) rfl ?_
  walk_at "go"
  refine opt_some (get_attr s.ob s.ns (by kernel_rfl) (by walk_at "lk") rfl) ?_
  walk_at "go"
  refine callG (.type rfl (.tuple (xs := R.map .str) (v_list hr) hRl)) ?_
  walk_at "go"
  refine opt_some (get_attr s.ob s.ns (by kernel_rfl) (by walk_at "lk") rfl) ?_
  walk_at "go"
  refine .for_ rfl (fun _ _ => by rfl) ?_
  walk_at "go"
  refine walkT hRl ?_
  have hra : ∀ x ∈ nodes, r ≠ x.a := fun x hx e => by rw [e, s.gr.inf x hx] at hr; cases hr
  have hrd : r ≠ d := fun e => by rw [e, s.ns] at hr; cases hr
  refine for_inv (fun i es => ∃ loc C', es = ⟨loc, C'⟩ ∧ So C' k d m (.ref r) p q nodes (fun u => if u ∈ R.take i then -1 else cnt u) suc true ∧ (∀ i, (∀ x ∈ nodes, i ≠ x.a) → C'[i]? = C[i]?) ∧
      loc "self" = some (.ref k) ∧ loc "n2i" = some (.ref m) ∧ loc "result" = some (.tup (R.map .str))) (fun i es _ => standsT hRl) ?hend ?step ⟨_, C, rfl, s.cong (fun _ => by simp) (fun _ => rfl), fun _ _ => rfl, by walk_at "lk", by walk_at "lk", by walk_at "lk"⟩
  case step =>
    intro i x es hx hJ0 T hT _ _ _
    refine hide fun hG => ?_
    obtain ⟨loc, C', rfl, s', hf, h1, h2, h3⟩ := hJ0
    refine hG ?_
    clear hG
    refine hide fun hG => ?_
    obtain ⟨v, hv, rfl⟩ := map_at hx
    refine hG ?_
    clear hG
    refine hide fun hG => ?_
    obtain ⟨y, hy, hyv, hlk⟩ := s'.node (hR v (List.mem_of_getElem? hv))
    refine hG ?_
    clear hG
    refine .name (sto (by kernel_rfl) ?_)
    walk_at "go"
    refine .item (fun _ _ => by rfl) ?_
    walk_at "go"
    refine opt_some (item_dict s'.gr.dict rfl hlk) ?_
    refine ex_some (set_slot (i := 1) (s'.gr.inf y hy) (by kernel_rfl) (by simp)) ?_
    walk_at "go"
    refine hT _ ⟨_, _, rfl, (s'.setCnt hy (-1)).cong (fun u => ?_) (fun _ => rfl), fun j hj => set_off (hj y hy).symm (hf j hj), by walk_at "lk", by walk_at "lk", by walk_at "lk"⟩
    rw [hyv, take_step hv]
    unfold upF
    by_cases e : u = v
    · simp [e]
    · simp [e]
  case hend =>
    intro es hJ0
    refine hide fun hG => ?_
    obtain ⟨loc, C', rfl, s', hf, h1, h2, h3⟩ := hJ0
    refine hG ?_
    clear hG
    rw [List.length_map, List.take_length] at s'
    have hr' : C'[r]? = some (.list (R.map .str)) := by rw [hf r hra]; exact hr
    walk_at "go"
    refine opt_some (get_attr s'.ob s'.ns (by kernel_rfl) (by walk_at "lk") rfl) ?_
    refine opt_some (m_clear hr') (mNo (by kernel_rfl) (by decide) (by kernel_rfl) ?_)
    walk_at "go"
    refine callG (.meth (.clear hr' hRl)) ?_
    have s2 : So (C'.set r (.list [])) k d m (.ref r) p q nodes (fun u => if u ∈ R then -1 else cnt u) suc true := by
      have hk : r ≠ k := fun e => by rw [e, s'.ob] at hr'; cases hr'
      have hm : r ≠ m := fun e => by rw [e, s'.gr.dict] at hr'; cases hr'
      exact ⟨set_off hk s'.ob, set_off hrd s'.ns, s'.gr.off hm hra hrb, s'.z⟩
    walk_at "go"
    refine .augA ?_
    walk_at "go"
    refine opt_some (get_attr s2.ob s2.ns (by kernel_rfl) (by walk_at "lk") rfl) ?_
    walk_at "go"
    refine callG (.fn rfl (.len (v := .tup (R.map .str)) (xs := R.map .str) rfl hRl)) ?_
    refine ⟨_, _, _, rfl, rfl, set_attr s2.ob s2.ns (by kernel_rfl) (by simp), ?_⟩
    first | refine kNext (sCons ?_) | refine sCons ?_
    walk_at "go"
    have s3 := s2.setNs (.ref r) (p + (R.length : Nat)) q
    rw [List.length_map]
    refine h _ s3 (set_off hrd.symm (set_hit hr')) fun i a b c => set_off a.symm (set_off b.symm (hf i c))

/-- one is done with: its successors have one before them less -/
noncomputable def dec (st : (Str → Int) × List Str) (v : Str) : (Str → Int) × List Str := (upF st.1 v (st.1 v - 1), if st.1 v - 1 = 0 then st.2 ++ [v] else st.2)
noncomputable def don (suc : Str → List Str) (st : (Str → Int) × List Str) (u : Str) : (Str → Int) × List Str := (suc u).foldl dec (upF st.1 u (-2), st.2)
theorem dec_len (l : List Str) : ∀ st, (l.foldl dec st).2.length ≤ st.2.length + l.length := by
  induction l with
  | nil => intro st; exact Nat.le_refl _
  | cons a l ih =>
    intro st
    have := ih (dec st a)
    have : (dec st a).2.length ≤ st.2.length + 1 := by unfold dec; dsimp only; split <;> simp
    simp only [List.foldl_cons, List.length_cons]; omega
theorem dec_off (l : List Str) {u : Str} (h : u ∉ l) : ∀ st, (l.foldl dec st).1 u = st.1 u := by
  induction l with
  | nil => intro st; rfl
  | cons a l ih =>
    intro st
    rw [List.foldl_cons, ih (fun e => h (.tail _ e))]
    exact upF_miss fun e => h (e ▸ .head _)
theorem don_off (suc : Str → List Str) (l : List Str) {u : Str} (h1 : u ∉ l) (h2 : ∀ v ∈ l, u ∉ suc v) : ∀ st, (l.foldl (don suc) st).1 u = st.1 u := by
  induction l with
  | nil => intro st; rfl
  | cons a l ih =>
    intro st
    rw [List.foldl_cons, ih (fun e => h1 (.tail _ e)) (fun v hv => h2 v (.tail _ hv))]
    unfold don
    rw [dec_off _ (h2 a (.head _))]
    exact upF_miss fun e => h1 (e ▸ .head _)
theorem don_len (suc : Str → List Str) (hl : ∀ u, (suc u).length ≤ 60) (l : List Str) : ∀ st, (l.foldl (don suc) st).2.length ≤ st.2.length + 60 * l.length := by
  induction l with
  | nil => intro st; simp
  | cons a l ih =>
    intro st
    have h1 := ih (don suc st a)
    have h2 : (don suc st a).2.length ≤ st.2.length + (suc a).length := dec_len _ _
    have h3 := hl a
    simp only [List.foldl_cons, List.length_cons]; omega
theorem c_done {n : Nat} {C : List Cell} {k d m r : Nat} {p q : Int} {nodes : List Nd} {cnt : Str → Int} {suc : Str → List Str} {L : List Str} {Q : TV → List Cell → Prop} (s : So C k d m (.ref r) p q nodes cnt suc true) (hr : C[r]? = some (.list [])) (hl : L.length ≤ 15) (hL : ∀ v ∈ L, v ∈ nodes.map (·.v)) (hrb : ∀ x ∈ nodes, r ≠ x.b)
    (hsl : ∀ u, (suc u).length ≤ 60) (hsu : ∀ x ∈ nodes, ∀ u ∈ suc x.v, u ∈ nodes.map (·.v)) (hc : ∀ v ∈ L, cnt v = -1) (hnd : L.Nodup) (hno : ∀ v ∈ L, ∀ u ∈ L, u ∉ suc v)
    (h : ∀ C', So C' k d m (.ref r) p (q + (L.length : Nat)) nodes (L.foldl (don suc) (cnt, [])).1 suc true → C'[r]? = some (.list ((L.foldl (don suc) (cnt, [])).2.map .str)) → (∀ i, i ≠ d → i ≠ r → (∀ x ∈ nodes, i ≠ x.a) → C'[i]? = C[i]?) → Q .none C') :
    (ev G2 (n + 60)).c true (.fn "TS.done") (.ref k :: L.map .str) C Q := by
  have hLl : (L.map TV.str).length ≤ lim := by rw [List.length_map]; walk_at "om"
  refine cFn (f := f_tsDone) (by kernel_rfl) (bindV (l := [("self", .ref k)]) (l' := [("self", .ref k), ("nodes", .tup (L.map .str))]) (a := "nodes") (bindPos1 (by kernel_rfl) (by kernel_rfl) (by kernel_rfl) (by rw [List.length_map]; walk_at "om")) (by kernel_rfl) (by kernel_rfl) (by kernel_rfl) ?_)
  walk_at "go"
  refine opt_some (get_attr s.ob s.ns (by kernel_rfl) (by walk_at "lk") rfl) ?_
  walk_at "go"
  refine opt_some (a := false) rfl ?_
  walk_at "go"
  refine opt_some (get_attr s.ob s.ns (by kernel_rfl) (by walk_at "lk") rfl) ?_
  walk_at "go"
  refine .for_ rfl (fun _ _ => by rfl) ?_
  walk_at "go"
  refine walkT hLl ?_
  have hra : ∀ x ∈ nodes, r ≠ x.a := fun x hx e => by rw [e, s.gr.inf x hx] at hr; cases hr
  have hrd : r ≠ d := fun e => by rw [e, s.ns] at hr; cases hr
  have hrk : r ≠ k := fun e => by rw [e, s.ob] at hr; cases hr
  have hrm : r ≠ m := fun e => by rw [e, s.gr.dict] at hr; cases hr
  refine for_inv (fun i es => ∃ loc C', es = ⟨loc, C'⟩ ∧ So C' k d m (.ref r) p (q + (i : Nat)) nodes ((L.take i).foldl (don suc) (cnt, [])).1 suc true ∧ C'[r]? = some (.list (((L.take i).foldl (don suc) (cnt, [])).2.map .str)) ∧ (∀ i, i ≠ d → i ≠ r → (∀ x ∈ nodes, i ≠ x.a) → C'[i]? = C[i]?) ∧
      loc "self" = some (.ref k) ∧ loc "n2i" = some (.ref m)) (fun i es _ => standsT hLl) ?hend ?step ⟨_, C, rfl, by simpa using s, hr, fun _ _ _ _ => rfl, by walk_at "lk", by walk_at "lk"⟩
  case hend =>
    intro es hJ0
    refine hide fun hG => ?_
    obtain ⟨loc, C', rfl, s', hr', hf, h1, h2⟩ := hJ0
    refine hG ?_
    clear hG
    rw [List.length_map] at s' hr'
    rw [List.take_length] at s' hr'
    walk_at "go"
    exact h C' s' hr' hf
  case step =>
    intro i x es hx hJ0 T hT _ _ _
    refine hide fun hG => ?_
    obtain ⟨loc, C', rfl, s', hr', hf, h1, h2⟩ := hJ0
    refine hG ?_
    clear hG
    refine hide fun hG => ?_
    obtain ⟨v, hv, rfl⟩ := map_at hx
    refine hG ?_
    clear hG
    have hvL := List.mem_of_getElem? hv
    refine hide fun hG => ?_
    obtain ⟨y, hy, hyv, hlk⟩ := s'.node (hL v hvL)
    refine hG ?_
    clear hG
    have hcv : ((L.take i).foldl (don suc) (cnt, [])).1 v = -1 := by
      rw [don_off suc (L.take i) (u := v) ?_ (fun w hw => hno w (List.mem_of_mem_take hw) v hvL)]
      · exact hc v hvL
      · intro hm
        obtain ⟨j, hj⟩ := List.mem_iff_getElem?.mp hm
        have hj' := at_lt hj
        rw [List.length_take] at hj'
        rw [List.getElem?_take, if_pos (by walk_at "om")] at hj
        have := (List.getElem?_inj (by walk_at "om") hnd).mp (hj.trans hv.symm)
        omega
    refine .name (sto (by kernel_rfl) ?_)
    walk_at "go"
    refine opt_some (m_dget s'.gr.dict) (mNo (by kernel_rfl) (by decide) (by kernel_rfl) ?_)
    walk_at "go"
    refine callG (.meth (.get s'.gr.dict rfl)) ?_
    rw [hlk, Option.getD_some]
    walk_at "go"
    refine opt_some (a := false) rfl ?_
    walk_at "go"
    have hyi := s'.gr.inf y hy
    refine opt_some (got_slot (i := 1) hyi (by kernel_rfl) rfl rfl) ?_
    walk_at "go"
    rw [hyv, hcv] at hyi ⊢
    refine opt_some (a := false) (by rw [ne_int]; rfl) ?_
    walk_at "go"
    refine ex_some (set_slot (i := 1) hyi (by kernel_rfl) (by simp)) ?_
    have s2 := s'.setCnt hy (-2)
    have hr2 := set_off (i := y.a) (x := infCell y.v (-2) y.b) (hra y hy).symm hr'
    have hf2 : ∀ i, i ≠ d → i ≠ r → (∀ x ∈ nodes, i ≠ x.a) → (C'.set y.a (infCell y.v (-2) y.b))[i]? = C[i]? := fun i a b c => set_off (c y hy).symm (hf i a b c)
    have e0 : C'.set y.a (.slots "_NodeInfo" ([some (.str v), some (.int (-1)), some (.ref y.b)].set 1 (some (.int (-2))))) = C'.set y.a (infCell y.v (-2) y.b) := by rw [hyv]; rfl
    rw [e0]
    generalize C'.set y.a (infCell y.v (-2) y.b) = c1 at *
    rw [hyv] at s2
    walk_at "go"
    refine .for_ rfl (fun _ _ => by rfl) ?_
    walk_at "go"
    refine opt_some (got_slot (i := 2) (s2.gr.inf y hy) (by kernel_rfl) rfl rfl) ?_
    have hsl2 : ((suc y.v).map TV.str).length ≤ lim := by have := hsl y.v; rw [List.length_map]; walk_at "om"
    refine walkC (s2.gr.suc y hy) hsl2 ?_
    refine for_inv (fun j es => ∃ loc C', es = ⟨loc, C'⟩ ∧ So C' k d m (.ref r) p (q + (i : Nat)) nodes (((suc v).take j).foldl dec (upF ((L.take i).foldl (don suc) (cnt, [])).1 v (-2), ((L.take i).foldl (don suc) (cnt, [])).2)).1 suc true ∧
        C'[r]? = some (.list ((((suc v).take j).foldl dec (upF ((L.take i).foldl (don suc) (cnt, [])).1 v (-2), ((L.take i).foldl (don suc) (cnt, [])).2)).2.map .str)) ∧ (∀ i, i ≠ d → i ≠ r → (∀ x ∈ nodes, i ≠ x.a) → C'[i]? = C[i]?) ∧
        loc "self" = some (.ref k) ∧ loc "n2i" = some (.ref m)) (fun j es h => by obtain ⟨_, _, rfl, h, _⟩ := h; exact standsC (h.gr.suc y hy) hsl2) ?hend2 ?step2 ⟨_, c1, rfl, s2, hr2, hf2, by walk_at "lk", by walk_at "lk"⟩
    case hend2 =>
      intro es hJ0
      refine hide fun hG => ?_
      obtain ⟨loc, C', rfl, s', hr', hf, h1, h2⟩ := hJ0
      refine hG ?_
      clear hG
      rw [List.length_map, hyv, List.take_length] at s' hr'
      walk_at "go"
      refine .augA ?_
      walk_at "go"
      refine opt_some (get_attr s'.ob s'.ns (by kernel_rfl) (by walk_at "lk") rfl) ?_
      walk_at "go"
      refine ⟨_, _, _, rfl, rfl, set_attr s'.ob s'.ns (by kernel_rfl) (by simp), ?_⟩
      walk_at "go"
      have s3 := s'.setNs (.ref r) p (q + (i : Nat) + 1)
      have e1 : (L.take (i + 1)).foldl (don suc) (cnt, []) = (suc v).foldl dec (upF ((L.take i).foldl (don suc) (cnt, [])).1 v (-2), ((L.take i).foldl (don suc) (cnt, [])).2) := by
        rw [take_step hv, List.foldl_append]; rfl
      refine hT _ ⟨_, _, rfl, ?_, ?_, fun i a b c => set_off a.symm (hf i a b c), h1, h2⟩
      · rw [e1, Int.natCast_add, ← Int.add_assoc]; exact s3
      · rw [e1]; exact set_off hrd.symm hr'
    case step2 =>
      intro j x es hx hJ0 T' hT' _ _ _
      refine hide fun hG => ?_
      obtain ⟨loc, C', rfl, s', hr', hf, h1, h2⟩ := hJ0
      refine hG ?_
      clear hG
      refine hide fun hG => ?_
      obtain ⟨u, hu, rfl⟩ := map_at hx
      refine hG ?_
      clear hG
      rw [hyv] at hu
      have huS : u ∈ suc y.v := by rw [hyv]; exact List.mem_of_getElem? hu
      refine hide fun hG => ?_
      obtain ⟨z, hz, hzv, hlk'⟩ := s'.node (hsu y hy u huS)
      refine hG ?_
      clear hG
      have e1 : ((suc v).take (j + 1)).foldl dec (upF ((L.take i).foldl (don suc) (cnt, [])).1 v (-2), ((L.take i).foldl (don suc) (cnt, [])).2) = dec (((suc v).take j).foldl dec (upF ((L.take i).foldl (don suc) (cnt, [])).1 v (-2), ((L.take i).foldl (don suc) (cnt, [])).2)) u := by
        rw [take_step hu, List.foldl_append]; rfl
      have hlen : (((suc v).take j).foldl dec (upF ((L.take i).foldl (don suc) (cnt, [])).1 v (-2), ((L.take i).foldl (don suc) (cnt, [])).2)).2.length ≤ 1000 := by
        have a := dec_len ((suc v).take j) (upF ((L.take i).foldl (don suc) (cnt, [])).1 v (-2), ((L.take i).foldl (don suc) (cnt, [])).2)
        have b := don_len suc hsl (L.take i) (cnt, [])
        have c := hsl v
        simp only [List.length_take, List.length_nil] at a b
        omega
      rw [e1] at hT'
      generalize ((suc v).take j).foldl dec (upF ((L.take i).foldl (don suc) (cnt, [])).1 v (-2), ((L.take i).foldl (don suc) (cnt, [])).2) = st at *
      refine .name (sto (by kernel_rfl) ?_)
      walk_at "go"
      refine .item (fun _ _ => by rfl) ?_
      walk_at "go"
      refine opt_some (item_dict s'.gr.dict rfl hlk') ?_
      walk_at "go"
      refine .augS ?_
      walk_at "go"
      refine opt_some (got_slot (i := 1) (s'.gr.inf z hz) (by kernel_rfl) rfl rfl) ?_
      walk_at "go"
      refine ⟨_, _, _, rfl, rfl, set_slot (i := 1) (s'.gr.inf z hz) (by kernel_rfl) (by simp), ?_⟩
      first | refine kNext (sCons ?_) | refine sCons ?_
      have s2 := s'.setCnt hz (st.1 z.v - 1)
      have hr2 := set_off (i := z.a) (x := infCell z.v (st.1 z.v - 1) z.b) (hra z hz).symm hr'
      have hf2 : ∀ i, i ≠ d → i ≠ r → (∀ x ∈ nodes, i ≠ x.a) → (C'.set z.a (infCell z.v (st.1 z.v - 1) z.b))[i]? = C[i]? := fun i a b c => set_off (c z hz).symm (hf i a b c)
      have e0 : C'.set z.a (.slots "_NodeInfo" ([some (.str z.v), some (.int (st.1 z.v)), some (.ref z.b)].set 1 (some (.int (st.1 z.v - 1))))) = C'.set z.a (infCell z.v (st.1 z.v - 1) z.b) := rfl
      rw [e0]
      generalize C'.set z.a (infCell z.v (st.1 z.v - 1) z.b) = c2 at *
      rw [hzv] at s2
      walk_at "go"
      refine opt_some (got_slot (i := 1) (s2.gr.inf z hz) (by kernel_rfl) rfl rfl) ?_
      walk_at "go"
      refine opt_some eq_int ?_
      rw [hzv, upF_hit]
      cases hc0 : st.1 u - 1 == 0 with
      | true =>
        walk_at "go"
        refine opt_some (get_attr s2.ob s2.ns (by kernel_rfl) (by walk_at "lk") rfl) ?_
        refine opt_some (m_append hr2) (mNo (by kernel_rfl) (by decide) (by kernel_rfl) ?_)
        walk_at "go"
        refine callG (.meth (.append hr2 (by rw [List.length_map]; walk_at "om"))) ?_
        walk_at "go"
        have e2 : (dec st u).2 = st.2 ++ [u] := if_pos (by simpa using hc0)
        refine hT' _ ⟨_, _, rfl, ⟨set_off hrk s2.ob, set_off hrd s2.ns, s2.gr.off hrm hra hrb, s2.z⟩, by rw [e2, List.map_append]; exact set_hit hr2, fun i a b c => set_off b.symm (hf2 i a b c), by walk_at "lk", by walk_at "lk"⟩
      | false =>
        walk_at "go"
        have e2 : (dec st u).2 = st.2 := if_neg (by simpa using hc0)
        exact hT' _ ⟨_, _, rfl, s2, by rw [e2]; exact hr2, hf2, by walk_at "lk", by walk_at "lk"⟩
end

section
open PySem PySem.W PyProof.Rows

theorem strLe_iff (a b : Str) : strLe a b = true ↔ a.cps.toList ≤ b.cps.toList := by
  simp only [strLe, Bool.not_eq_true', decide_eq_false_iff_not]
  exact Iff.rfl
theorem Str_ext {a b : Str} (h : a.cps.toList = b.cps.toList) : a = b := by
  cases a; cases b
  simp only at h
  congr 1
  exact Array.toList_inj.mp h
theorem sortS_pw (l : List Str) : (sortS l).Pairwise (fun a b => strLe a b = true) :=
  List.pairwise_mergeSort (fun a b c h1 h2 => by rw [strLe_iff] at *; exact List.le_trans h1 h2) (fun a b => by
    rw [Bool.or_eq_true, strLe_iff, strLe_iff]; exact List.le_total _ _) l
theorem sortS_perm {l m : List Str} (h : l.Perm m) : sortS l = sortS m :=
  List.Perm.eq_of_pairwise (fun a b _ _ h1 h2 => Str_ext (List.le_antisymm ((strLe_iff a b).mp h1) ((strLe_iff b a).mp h2))) (sortS_pw l) (sortS_pw m)
    (((List.mergeSort_perm l strLe).trans h).trans (List.mergeSort_perm m strLe).symm)
theorem sortS_nd {l m : List Str} (h1 : l.Nodup) (h2 : m.Nodup) (h : ∀ v, v ∈ l ↔ v ∈ m) : sortS l = sortS m := sortS_perm ((List.perm_ext_iff_of_nodup h1 h2).mpr fun a => h a)
theorem sortS_mem {l : List Str} {v : Str} : v ∈ sortS l ↔ v ∈ l := List.mem_mergeSort
theorem sortS_len (l : List Str) : (sortS l).length = l.length := List.length_mergeSort l

/-- how many steps lead from these to that -/
noncomputable def E (suc : Str → List Str) (L : List Str) (u : Str) : Nat := (L.map fun v => (suc v).count u).sum
theorem E_nil (suc : Str → List Str) (u : Str) : E suc [] u = 0 := rfl
theorem E_cons (suc : Str → List Str) (a : Str) (L : List Str) (u : Str) : E suc (a :: L) u = (suc a).count u + E suc L u := by simp [E]
theorem E_zero {suc : Str → List Str} {L : List Str} {u : Str} : E suc L u = 0 ↔ ∀ v ∈ L, u ∉ suc v := by
  induction L with
  | nil => simp [E_nil]
  | cons a L ih =>
    rw [E_cons, Nat.add_eq_zero_iff, ih, List.count_eq_zero]
    simp
theorem E_split (suc : Str → List Str) (L : List Str) (u : Str) (p : Str → Bool) : E suc L u = E suc (L.filter p) u + E suc (L.filter fun x => !p x) u := by
  induction L with
  | nil => rfl
  | cons a L ih =>
    rw [E_cons, ih, List.filter_cons, List.filter_cons]
    cases p a <;> simp [E_cons] <;> omega
theorem E_perm {suc : Str → List Str} {L M : List Str} {u : Str} (h : L.Perm M) : E suc L u = E suc M u := (h.map _).sum_nat

theorem dec_fold (l : List Str) : ∀ (c : Str → Int) (r : List Str), ∃ X, (l.foldl dec (c, r)).2 = r ++ X ∧ X.Nodup ∧ (∀ v, v ∈ X ↔ 1 ≤ c v ∧ c v ≤ (l.count v : Nat)) ∧ ∀ u, (l.foldl dec (c, r)).1 u = c u - (l.count u : Nat) := by
  induction l with
  | nil => intro c r; exact ⟨[], by simp, List.nodup_nil, fun v => by simp; omega, fun u => by simp⟩
  | cons a l ih =>
    intro c r
    refine hide fun hG => ?_
    obtain ⟨X, h1, h2, h3, h4⟩ := ih (upF c a (c a - 1)) (if c a - 1 = 0 then r ++ [a] else r)
    refine hG ?_
    clear hG
    have hcount : ∀ v, ((a :: l).count v : Nat) = l.count v + if v = a then 1 else 0 := fun v => by
      rw [List.count_cons]
      by_cases e : v = a
      · subst e; simp
      · rw [if_neg e, if_neg (by simpa using fun h : a = v => e h.symm)]
    have hfun : ∀ u, upF c a (c a - 1) u = c u - ((if u = a then 1 else 0 : Nat) : Int) := fun u => by
      by_cases e : u = a
      · subst e; rw [upF_hit, if_pos rfl]; rfl
      · rw [upF_miss e, if_neg e]; simp
    have e0 : (a :: l).foldl dec (c, r) = l.foldl dec (upF c a (c a - 1), if c a - 1 = 0 then r ++ [a] else r) := rfl
    rw [e0]
    have hend : ∀ u, (l.foldl dec (upF c a (c a - 1), if c a - 1 = 0 then r ++ [a] else r)).1 u = c u - ((a :: l).count u : Nat) := fun u => by
      rw [h4, hfun, hcount]; omega
    by_cases hz : c a - 1 = 0
    · rw [if_pos hz] at h1 hend ⊢
      refine ⟨a :: X, by rw [h1]; simp, ?_, ?_, hend⟩
      · rw [List.nodup_cons]
        refine ⟨fun hm => ?_, h2⟩
        have := (h3 a).mp hm
        rw [upF_hit] at this
        omega
      · intro v
        rw [List.mem_cons, h3 v, hfun, hcount]
        by_cases e : v = a
        · subst e; simp only [if_true, true_or, true_iff]; omega
        · simp only [e, if_false, false_or]; omega
    · rw [if_neg hz] at h1 hend ⊢
      refine ⟨X, h1, h2, ?_, hend⟩
      intro v
      rw [h3 v, hfun, hcount]
      by_cases e : v = a
      · subst e; simp only [if_true]; omega
      · simp only [e, if_false]; omega

theorem don_fold (suc : Str → List Str) (L : List Str) : ∀ (c : Str → Int) (r : List Str), (∀ v ∈ L, ∀ u ∈ L, u ∉ suc v) → (∀ v ∈ L, c v < 0) →
    ∃ X, (L.foldl (don suc) (c, r)).2 = r ++ X ∧ X.Nodup ∧ (∀ v, v ∈ X ↔ v ∉ L ∧ 1 ≤ c v ∧ c v ≤ (E suc L v : Nat)) ∧ ∀ u, (L.foldl (don suc) (c, r)).1 u = if u ∈ L then -2 else c u - (E suc L u : Nat) := by
  induction L with
  | nil => intro c r _ _; exact ⟨[], by simp, List.nodup_nil, fun v => by simp [E_nil] <;> omega, fun u => by simp [E_nil]⟩
  | cons a L ih =>
    intro c r hno hneg
    refine hide fun hG => ?_
    obtain ⟨X1, a1, a2, a3, a4⟩ := dec_fold (suc a) (upF c a (-2)) r
    refine hG ?_
    clear hG
    have e0 : (a :: L).foldl (don suc) (c, r) = L.foldl (don suc) (don suc (c, r) a) := rfl
    have e1 : don suc (c, r) a = ((don suc (c, r) a).1, r ++ X1) := Prod.ext rfl a1
    have ha : (suc a).count a = 0 := List.count_eq_zero.mpr (hno a (.head _) a (.head _))
    have hc1 : ∀ u, (don suc (c, r) a).1 u = (if u = a then -2 else c u) - ((suc a).count u : Nat) := fun u => a4 u
    obtain ⟨X2, b1, b2, b3, b4⟩ := ih (don suc (c, r) a).1 (r ++ X1) (fun v hv u hu => hno v (.tail _ hv) u (.tail _ hu)) (fun v hv => by
      rw [hc1]
      have := hneg v (.tail _ hv)
      split <;> omega)
    rw [e0, e1]
    have hX1 : ∀ v, v ∈ X1 ↔ v ≠ a ∧ 1 ≤ c v ∧ c v ≤ ((suc a).count v : Nat) := fun v => by
      rw [a3]
      by_cases e : v = a
      · subst e; rw [upF_hit]; simp <;> omega
      · rw [upF_miss e]; simp [e]
    refine ⟨X1 ++ X2, by rw [b1, List.append_assoc], ?_, ?_, ?_⟩
    · rw [List.nodup_append]
      refine ⟨a2, b2, fun x hx y hy e => ?_⟩
      subst e
      have h1 := (hX1 x).mp hx
      have h2 := (b3 x).mp hy
      rw [hc1, if_neg h1.1] at h2
      omega
    · intro v
      rw [List.mem_append, hX1, b3, hc1, List.mem_cons, E_cons]
      by_cases e : v = a
      · subst e; simp <;> omega
      · simp only [e, if_false, ne_eq, not_false_eq_true, true_and, false_or]
        by_cases hv : v ∈ L
        · have := hneg v (.tail _ hv)
          simp only [hv, not_true_eq_false, false_and, or_false, iff_false]; omega
        · simp only [hv, not_false_eq_true, true_and]; omega
    · intro u
      rw [b4, hc1, E_cons]
      simp only [List.mem_cons]
      by_cases e : u = a
      · subst e
        have hE : E suc L u = 0 := E_zero.mpr fun v hv => hno v (.tail _ hv) u (.head _)
        rw [ha, hE]; simp
      · simp only [e, if_false, false_or]
        split <;> omega
end

section
open PySem PySem.W PyProof.Rows

noncomputable def front (suc : Str → List Str) (left : List Str) : List Str := left.filter fun u => E suc left u == 0
noncomputable def rest (suc : Str → List Str) (left : List Str) : List Str := left.filter fun u => !(E suc left u == 0)
/-- the rounds -/
inductive Rnds (suc : Str → List Str) : List Str → List (List Str) → Prop
  | stop {left : List Str} : front suc left = [] → Rnds suc left []
  | go {left : List Str} {out : List (List Str)} : front suc left ≠ [] → Rnds suc (rest suc left) out → Rnds suc left (sortS (front suc left) :: out)
/-- the sorter between two rounds -/
structure Kn (fo : List Str) (suc : Str → List Str) (left : List Str) (c : Str → Int) (R : List Str) : Prop where
  cls : ∀ v ∈ fo, ∀ u ∈ suc v, u ∈ fo
  sub : ∀ u ∈ left, u ∈ fo
  lnd : left.Nodup
  cl : ∀ u ∈ left, c u = (E suc left u : Nat)
  out : ∀ u ∈ fo, u ∉ left → c u ≤ 0
  rnd : R.Nodup
  rm : ∀ v, v ∈ R ↔ v ∈ left ∧ E suc left v = 0
theorem Kn.front {fo : List Str} {suc : Str → List Str} {left : List Str} {c : Str → Int} {R : List Str} (h : Kn fo suc left c R) : sortS R = sortS (front suc left) := by
  refine sortS_nd h.rnd (h.lnd.filter _) fun v => ?_
  rw [h.rm, Mine.front, List.mem_filter, beq_iff_eq]
theorem Kn.nil {fo : List Str} {suc : Str → List Str} {left : List Str} {c : Str → Int} {R : List Str} (h : Kn fo suc left c R) : Mine.front suc left = [] ↔ R = [] := by
  rw [List.eq_nil_iff_forall_not_mem, List.eq_nil_iff_forall_not_mem]
  simp only [Mine.front, List.mem_filter, beq_iff_eq, h.rm]
theorem Kn.len {fo : List Str} {suc : Str → List Str} {left : List Str} {c : Str → Int} {R : List Str} (h : Kn fo suc left c R) (hR : R ≠ []) : (rest suc left).length < left.length := by
  obtain ⟨v, hv⟩ := List.exists_mem_of_ne_nil R hR
  have hv := (h.rm v).mp hv
  unfold rest
  refine List.length_filter_lt_length_iff_exists.mpr ⟨v, hv.1, ?_⟩
  simp [hv.2]
theorem Kn.step {fo : List Str} {suc : Str → List Str} {left : List Str} {c : Str → Int} {R : List Str} (h : Kn fo suc left c R) :
    (∀ v ∈ R, ∀ u ∈ R, u ∉ suc v) ∧ Kn fo suc (rest suc left) (R.foldl (don suc) (fun u => if u ∈ R then -1 else c u, [])).1 (R.foldl (don suc) (fun u => if u ∈ R then -1 else c u, [])).2 := by
  have hno : ∀ v ∈ R, ∀ u ∈ R, u ∉ suc v := fun v hv u hu => E_zero.mp ((h.rm u).mp hu).2 v ((h.rm v).mp hv).1
  refine ⟨hno, ?_⟩
  obtain ⟨X, h1, h2, h3, h4⟩ := don_fold suc R (fun u => if u ∈ R then -1 else c u) [] hno (fun v hv => by simp only [hv, if_true]; omega)
  have hrest : ∀ u, u ∈ rest suc left ↔ u ∈ left ∧ u ∉ R := fun u => by
    unfold rest
    rw [List.mem_filter, h.rm, Bool.not_eq_true', beq_eq_false_iff_ne]
    constructor
    · rintro ⟨a, b⟩; exact ⟨a, fun e => b e.2⟩
    · rintro ⟨a, b⟩; exact ⟨a, fun e => b ⟨a, e⟩⟩
  have hE : ∀ u, E suc left u = E suc R u + E suc (rest suc left) u := fun u => by
    rw [E_split suc left u fun x => E suc left x == 0]
    congr 1
    exact E_perm ((List.perm_ext_iff_of_nodup (h.lnd.filter _) h.rnd).mpr fun a => by rw [List.mem_filter, h.rm, beq_iff_eq])
  have hR0 : ∀ u, u ∉ fo → E suc R u = 0 := fun u hu => E_zero.mpr fun v hv e => hu (h.cls v (h.sub v ((h.rm v).mp hv).1) u e)
  rw [h1, List.nil_append]
  refine ⟨h.cls, fun u hu => h.sub u ((hrest u).mp hu).1, h.lnd.filter _, fun u hu => ?_, fun u hu hl => ?_, h2, fun v => ?_⟩
  · obtain ⟨a, b⟩ := (hrest u).mp hu
    rw [h4, if_neg b, if_neg b, h.cl u a, hE u]; omega
  · rw [h4]
    split
    · omega
    · rename_i hr
      have : c u ≤ 0 := h.out u hu fun e => hl ((hrest u).mpr ⟨e, hr⟩)
      omega
  · rw [h3, hrest]
    constructor
    · intro hJ0
      refine hide fun hG => ?_
      obtain ⟨a, b, d⟩ := hJ0
      refine hG ?_
      clear hG
      rw [if_neg a] at b d
      have hfo : v ∈ fo := Classical.byContradiction fun e => by rw [hR0 v e] at d; omega
      have hvl : v ∈ left := Classical.byContradiction fun e => by have := h.out v hfo e; omega
      have := h.cl v hvl
      have := hE v
      exact ⟨⟨hvl, a⟩, by walk_at "om"⟩
    · intro hJ0
      refine hide fun hG => ?_
      obtain ⟨⟨a, b⟩, d⟩ := hJ0
      refine hG ?_
      clear hG
      rw [if_neg b]
      have := h.cl v a
      have := hE v
      have : E suc left v ≠ 0 := fun e => b ((h.rm v).mpr ⟨a, e⟩)
      exact ⟨b, by walk_at "om", by walk_at "om"⟩

/-- the successors behind what was added -/
noncomputable def sucOf (pr : Str → List Str) (order : List Str) (u : Str) : List Str := order.flatMap fun v => List.replicate ((pr v).count u) v
noncomputable def cntOf (pr : Str → List Str) (order : List Str) (v : Str) : Int := if v ∈ order then (pr v).length else 0
theorem sucOf_count {pr : Str → List Str} {order : List Str} (hn : order.Nodup) (u v : Str) : (sucOf pr order u).count v = if v ∈ order then (pr v).count u else 0 := by
  induction order with
  | nil => rfl
  | cons a l ih =>
    rw [List.nodup_cons] at hn
    have : sucOf pr (a :: l) u = List.replicate ((pr a).count u) a ++ sucOf pr l u := rfl
    rw [this, List.count_append, ih hn.2, List.count_replicate]
    by_cases e : a = v
    · subst e; simp [hn.1]
    · have e' : ¬ v = a := fun h => e h.symm
      simp [e, e']
theorem sucOf_mem {pr : Str → List Str} {order : List Str} {u v : Str} : v ∈ sucOf pr order u ↔ v ∈ order ∧ u ∈ pr v := by
  unfold sucOf
  rw [List.mem_flatMap]
  constructor
  · intro hJ0
    refine hide fun hG => ?_
    obtain ⟨w, hw, h⟩ := hJ0
    refine hG ?_
    clear hG
    obtain ⟨h1, rfl⟩ := List.mem_replicate.mp h
    exact ⟨hw, List.count_pos_iff.mp (Nat.pos_of_ne_zero h1)⟩
  · rintro ⟨h1, h2⟩
    exact ⟨v, h1, List.mem_replicate.mpr ⟨Nat.ne_of_gt (List.count_pos_iff.mpr h2), rfl⟩⟩
theorem count_sum {N l : List Str} (hn : N.Nodup) (h : ∀ u ∈ l, u ∈ N) : (N.map fun u => l.count u).sum = l.length := by
  induction l with
  | nil => clear hn h; induction N with
    | nil => rfl
    | cons a N ih => rw [List.map_cons, List.sum_cons, ih]; rfl
  | cons a l ih =>
    have ha := h a (.head _)
    have key : ∀ M : List Str, M.Nodup → (M.map fun u => (a :: l).count u).sum = (M.map fun u => l.count u).sum + if a ∈ M then 1 else 0 := by
      intro M hM
      induction M with
      | nil => simp
      | cons b M ih2 =>
        rw [List.nodup_cons] at hM
        rw [List.map_cons, List.map_cons, List.sum_cons, List.sum_cons, ih2 hM.2, List.count_cons]
        by_cases e : a = b
        · subst e; simp [hM.1]; omega
        · simp [e]; omega
    rw [key N hn, ih fun u hu => h u (.tail _ hu), if_pos ha]; rfl
theorem E_pr {pr : Str → List Str} {order N : List Str} (hn : order.Nodup) (hN : N.Nodup) (h : ∀ u, u ∈ N ↔ u ∈ order) (hp : ∀ v ∈ order, ∀ u ∈ pr v, u ∈ order) {v : Str} (hv : v ∈ order) : E (sucOf pr order) N v = (pr v).length := by
  rw [← count_sum hN (l := pr v) fun u hu => (h u).mpr (hp v hv u hu)]
  unfold E
  congr 1
  apply List.map_congr_left
  intro u _
  rw [sucOf_count hn, if_pos hv]
theorem Kn.init {pr : Str → List Str} {order N : List Str} (hn : order.Nodup) (hN : N.Nodup) (h : ∀ u, u ∈ N ↔ u ∈ order) (hp : ∀ v ∈ order, ∀ u ∈ pr v, u ∈ order) :
    Kn N (sucOf pr order) N (cntOf pr order) (N.filter fun v => cntOf pr order v == 0) := by
  have hc : ∀ u ∈ N, cntOf pr order u = (E (sucOf pr order) N u : Nat) := fun u hu => by
    rw [E_pr hn hN h hp ((h u).mp hu), cntOf, if_pos ((h u).mp hu)]
  refine ⟨fun v _ u hu => (h u).mpr (sucOf_mem.mp hu).1, fun u hu => hu, hN, hc, fun u hu hl => absurd hu hl, hN.filter _, fun v => ?_⟩
  rw [List.mem_filter, beq_iff_eq]
  constructor
  · rintro ⟨a, b⟩; refine ⟨a, ?_⟩; rw [hc v a] at b; omega
  · rintro ⟨a, b⟩; refine ⟨a, ?_⟩; rw [hc v a, b]; rfl
theorem foldl_ins_mem (l : List Str) : ∀ (N : List Str) (u : Str), u ∈ l.foldl ins N ↔ u ∈ N ∨ u ∈ l := by
  induction l with
  | nil => intro N u; simp
  | cons a l ih =>
    intro N u
    rw [List.foldl_cons, ih, List.mem_cons]
    unfold ins
    split
    · rename_i h
      constructor
      · rintro (h | h)
        · exact .inl h
        · exact .inr (.inr h)
      · rintro (h' | rfl | h')
        · exact .inl h'
        · exact .inl h
        · exact .inr h'
    · rw [List.mem_append, List.mem_singleton, or_assoc]
/-- a way climbs -/
theorem Way.up {suc : Str → List Str} {ρ : Str → Nat} (h : ∀ v, ∀ u ∈ suc v, ρ v < ρ u) {v u : Str} (w : Way suc v u) : ρ v < ρ u := by
  induction w with
  | one h1 => exact h _ _ h1
  | more h1 _ ih => exact Nat.lt_trans (h _ _ h1) ih
end

section
open PySem PySem.W PyProof.Rows

noncomputable abbrev rowTV (r : List Str) : TV := .list (r.map .str)
noncomputable abbrev rowPy (r : List Str) : PyData := .list (r.map .str)
theorem eqvAll_str (a b : List Str) : PyData.eqvAll (a.map .str) (b.map .str) = (a == b) := by
  induction a generalizing b with
  | nil => cases b <;> rfl
  | cons x a ih =>
    cases b with
    | nil => rfl
    | cons y b => simp only [List.map_cons, PyData.eqvAll, PyData.eqv, ih, List.cons_beq_cons]
theorem eqv_row (a b : List Str) : PyData.eqv (rowPy a) (rowPy b) = (a == b) := by
  show PyData.eqv (.list _) (.list _) = _
  rw [PyData.eqv, eqvAll_str]
theorem toPy_row {cells : List Cell} (r : List Str) : toPy cells (rowTV r) = some (rowPy r) := congrArg (Option.map PyData.list) (toPys_str (cells := cells) r)
theorem toPys_rows {cells : List Cell} (l : List (List Str)) : toPys cells (l.map rowTV) = some (l.map rowPy) := toPys_map toPy_row l
theorem depth_row (r : List Str) : (rowPy r).depth = 1 := by
  show PyData.depth (.list _) = 1
  rw [PyData.depth, depth_str]
theorem depth_rows (l : List (List Str)) : PyData.depthAll (l.map rowPy) ≤ 1 := by
  induction l with
  | nil => exact Nat.zero_le _
  | cons a l ih => rw [List.map_cons, PyData.depthAll, depth_row]; omega
theorem in_rows {cells : List Cell} {l : List (List Str)} {r : List Str} (h : l.length ≤ lim) : inList cells (rowTV r) (l.map rowTV) = some (l.contains r) := by
  have e : pyOf cells (rowTV r) = some (rowPy r) := by
    exact toPy_row (cells := cells) r
  refine (in_py (toPys_rows l) e ⟨Nat.le_trans (depth_rows l) (by decide), by rw [List.length_map]; exact h⟩).trans ?_
  congr 1
  clear h
  induction l with
  | nil => rfl
  | cons a l ih =>
    rw [List.map_cons, List.any_cons, ih, List.contains_cons, eqv_row]
    congr 1
    rw [Bool.eq_iff_iff, beq_iff_eq, beq_iff_eq]; exact eq_comm
theorem in_rowsC {cells : List Cell} {k : Nat} {l : List (List Str)} {r : List Str} (e : cells[k]? = some (.list (l.map rowTV))) (h : l.length ≤ lim) : cmpTV cells .NotIn (rowTV r) (.ref k) = some (!l.contains r) := by
  show (inC cells (rowTV r) cells[k]?).map (!·) = _
  rw [e]
  exact congrArg (Option.map (!·)) (in_rows (cells := cells) h)
theorem frzs_rows {cells : List Cell} (l : List (List Str)) : frzs (l.map rowTV) cells = (l.map rowTV, cells) := frzs_map (fun _ => rfl) l

noncomputable def nm : List Str := ["a", "ab", "b"]
/-- a row -/
structure Row (r : List Str) : Prop where
  nm : ∀ s ∈ r, s ∈ nm
  lo : 1 ≤ r.length
  hi : r.length ≤ 3
structure Rows (l : List (List Str)) : Prop where
  nd : l.Nodup
  row : ∀ r ∈ l, Row r
  lo : l ≠ []
  hi : l.length ≤ 7
noncomputable def pk (i : Int) : Str := (nm[(i.fmod 3).toNat]?).getD "a"
noncomputable def rowOf (n : Int) : List Str := [pk (n.fdiv 3), pk (n.fdiv 9), pk (n.fdiv 27)].take ((n.fmod 3).toNat + 1)
theorem fmod3 (i : Int) : 0 ≤ i.fmod 3 ∧ i.fmod 3 < 3 := ⟨Int.fmod_nonneg_of_pos _ (by decide), Int.fmod_lt_of_pos _ (by decide)⟩
theorem pk_at (i : Int) : nm[(i.fmod 3).toNat]? = some (pk i) := by
  obtain ⟨h1, h2⟩ := fmod3 i
  have h : (i.fmod 3).toNat < nm.length := by show _ < 3; omega
  unfold pk
  rw [List.getElem?_eq_getElem h]; rfl
theorem pk_mem (i : Int) : pk i ∈ nm := List.mem_of_getElem? (pk_at i)
theorem rowOf_row (n : Int) : Row (rowOf n) := by
  obtain ⟨h1, h2⟩ := fmod3 n
  refine ⟨fun s hs => ?_, ?_, ?_⟩
  · have := List.mem_of_mem_take hs
    simp only [List.mem_cons, List.not_mem_nil, or_false] at this
    rcases this with rfl | rfl | rfl <;> exact pk_mem _
  · simp [rowOf]
  · simp [rowOf]; omega
theorem nm_item {cells : List Cell} (i : Int) : itemTV cells (.list (nm.map .str)) (.int (i.fmod 3)) = some (.str (pk i)) := by
  have h := pk_at i
  have e : i.fmod 3 = ((i.fmod 3).toNat : Nat) := by have := fmod3 i; omega
  rw [e]
  refine item_list (x := .str (pk i)) ?_ (by decide)
  rw [List.getElem?_map, h]; rfl
noncomputable def noRef : TV → Bool
  | .ref _ => false
  | _ => true
theorem frzs_nr {vs : List TV} {cells : List Cell} (h : vs.all noRef = true) : frzs vs cells = (vs, cells) := by
  induction vs with
  | nil => rfl
  | cons a l ih =>
    rw [List.all_cons, Bool.and_eq_true] at h
    have e : frz a cells = (a, cells) := by cases a <;> first | rfl | cases h.1
    show ((frz a cells).1 :: (frzs l (frz a cells).2).1, (frzs l (frz a cells).2).2) = _
    rw [e, ih h.2]
theorem fm_some {α β : Type} (f : α → β) (l : List α) : l.filterMap (fun n => some (f n)) = l.map f := by
  induction l with
  | nil => rfl
  | cons a l ih => simp [ih]
noncomputable def row3 : List (List Str) := [["a", "ab"], ["b"], ["b", "a"]]
theorem first3 : row3.Nodup ∧ ∀ r ∈ row3, Row r := by
  refine ⟨by decide +kernel, fun r hr => ?_⟩
  have : ∀ r ∈ row3, (∀ s ∈ r, s ∈ nm) ∧ 1 ≤ r.length ∧ r.length ≤ 3 := by decide +kernel
  exact ⟨(this r hr).1, (this r hr).2.1, (this r hr).2.2⟩
theorem c_rows {n : Nat} {ns : List Int} {cells : List Cell} {Q : TV → List Cell → Prop} (hl : ns.length ≤ 4) (h : ∀ rows cells', Rows rows → Q (.list (rows.map rowTV)) cells') : (ev G2 (n + 60)).c true (.fn "_law_rows") [.list (ns.map .int)] cells Q := by
  refine cFn (f := f_rows) (by kernel_rfl) (bindS (l := [("script", .list (ns.map .int))]) (by kernel_rfl) (by kernel_rfl) (by kernel_rfl) ?_)
  walk_at "go"
  refine ⟨by simp [lim], ?_⟩
  rw [frzs_nr rfl]
  dsimp only
  walk_at "go"
  refine .asg (fun _ => by rfl) (newList ?_)
  walk_at "go"
  refine .for_ rfl (fun _ _ => by rfl) ?_
  walk_at "go"
  refine ⟨by simp [lim], ?_⟩
  rw [frzs_nr rfl]
  dsimp only
  walk_at "go"
  refine ⟨by simp [lim], ?_⟩
  rw [frzs_nr rfl]
  dsimp only
  walk_at "go"
  refine ⟨by simp [lim], ?_⟩
  rw [frzs_nr rfl]
  dsimp only
  walk_at "go"
  refine ⟨by simp [lim], ?_⟩
  rw [frzs_nr rfl]
  dsimp only
  walk_at "go"
  refine ⟨rfl, by kernel_rfl, fun _ _ => by rfl, by kernel_rfl, by decide, ?_⟩
  walk_at "go"
  have hnl : ns.length ≤ lim := by walk_at "om"
  refine walkL (by rw [List.length_map]; exact hnl) ?_
  refine gen_fmM (fun n => some (rowTV (rowOf n))) (fun es => ∃ loc, es = ⟨loc, cells ++ [.list []]⟩ ∧ loc "names" = some (.list (nm.map .str))) (fun es _ => standsL (by rw [List.length_map]; exact hnl)) ?step ⟨_, rfl, (show (_ : Option TV) = some (TV.list [TV.str "a", TV.str "ab", TV.str "b"]) by walk_at "lk")⟩ hnl ?fin
  case step =>
    intro y hy es hJ0 T hT
    refine hide fun hG => ?_
    obtain ⟨loc, rfl, h1⟩ := hJ0
    refine hG ?_
    clear hG
    refine .name (sto (by kernel_rfl) ?_)
    walk_at "go"
    refine .item (fun _ _ => by rfl) ?_
    walk_at "go"
    refine ⟨_, .fdiv (by decide) (by decide), ?_⟩
    walk_at "go"
    refine ⟨_, .fmod (by decide) (by decide), ?_⟩
    refine opt_some (nm_item _) ?_
    walk_at "go"
    refine .item (fun _ _ => by rfl) ?_
    walk_at "go"
    refine ⟨_, .fdiv (by decide) (by decide), ?_⟩
    walk_at "go"
    refine ⟨_, .fmod (by decide) (by decide), ?_⟩
    refine opt_some (nm_item _) ?_
    walk_at "go"
    refine .item (fun _ _ => by rfl) ?_
    walk_at "go"
    refine ⟨_, .fdiv (by decide) (by decide), ?_⟩
    walk_at "go"
    refine ⟨_, .fmod (by decide) (by decide), ?_⟩
    refine opt_some (nm_item _) ?_
    walk_at "go"
    refine ⟨by simp [lim], ?_⟩
    rw [frzs_nr rfl]
    dsimp only
    walk_at "sl"
    refine ⟨_, .fmod (by decide) (by decide), ?_⟩
    walk_at "go"
    refine ⟨_, .add, ?_⟩
    have e1 : y.fmod 3 + 1 = (((y.fmod 3).toNat + 1 : Nat) : Int) := by have := fmod3 y; omega
    rw [e1]
    refine opt_some (a := rowTV (rowOf y)) (by
      have hc : intPart TV.none = some none := rfl
      unfold sliceTV
      rw [hc]
      show (if (none : Option Int) = some 0 then none else if (3 : Nat) ≤ lim then some (TV.list (pick _ none (some ((((y.fmod 3).toNat + 1 : Nat)) : Int)) none)) else none) = _
      rw [if_neg (by simp), if_pos (by decide), pick_take]
      show _ = some (TV.list (List.map TV.str (List.take _ _)))
      rw [List.map_take]; rfl) ?_
    walk_at "go"
    exact hT _ ⟨_, rfl, by walk_at "lk"⟩
  case fin =>
    intro es hJ0
    refine hide fun hG => ?_
    obtain ⟨loc, rfl, h1⟩ := hJ0
    refine hG ?_
    clear hG
    refine ⟨Nat.le_trans (List.length_filterMap_le ..) hnl, ?_⟩
    have hfl := List.length_filterMap_le (fun n => some (rowTV (rowOf n))) ns
    refine ⟨_, .addl rfl rfl (by simp only [List.length_cons, List.length_nil, lim]; omega), ?_⟩
    have e1 : [TV.list [TV.str "a", TV.str "ab"], TV.list [TV.str "b"], TV.list [TV.str "b", TV.str "a"]] ++ ns.filterMap (fun n => some (rowTV (rowOf n))) = (row3 ++ ns.map rowOf).map rowTV := by
      rw [fm_some, List.map_append, List.map_map]; rfl
    rw [e1]
    have hall : ∀ r ∈ (row3 ++ ns.map rowOf), Row r := fun r hr => by
      rcases List.mem_append.mp hr with hr | hr
      · exact first3.2 r hr
      · obtain ⟨y, _, rfl⟩ := List.mem_map.mp hr; exact rowOf_row y
    have hal : (row3 ++ ns.map rowOf).length ≤ 7 := by simp [row3]; omega
    have hap : 0 < (row3 ++ ns.map rowOf).length := by simp [row3]
    generalize (row3 ++ ns.map rowOf) = all at *
    have hal' : (all.map rowTV).length ≤ lim := by rw [List.length_map]; walk_at "om"
    refine walkL hal' ?_
    refine for_inv (fun i es => ∃ loc acc, es = ⟨loc, cells ++ [.list (acc.map rowTV)]⟩ ∧ acc.Nodup ∧ (∀ r ∈ acc, Row r) ∧ acc.length ≤ i ∧ i ≤ 7 ∧ (0 < i → acc ≠ []) ∧ loc "rows" = some (.ref cells.length))
      (fun i es _ => standsL hal') ?hend ?step2 ⟨_, [], rfl, List.nodup_nil, fun _ h => (nomatch h), Nat.le_refl _, Nat.zero_le _, fun h => absurd h (Nat.lt_irrefl _), by walk_at "lk"⟩
    case hend =>
      intro es hJ0
      refine hide fun hG => ?_
      obtain ⟨loc, acc, rfl, a1, a2, a3, a4, a5, a6⟩ := hJ0
      refine hG ?_
      clear hG
      rw [List.length_map] at a3 a5
      walk_at "go"
      have hf : frz (.ref cells.length) (cells ++ [Cell.list (acc.map rowTV)]) = (.list (acc.map rowTV), (cells ++ [Cell.list (acc.map rowTV)]).set cells.length .dead) := frz_L (at_last ..)
      rw [hf]
      exact h acc _ ⟨a1, a2, a5 hap, by walk_at "om"⟩
    case step2 =>
      intro i x es hx hJ0 T hT _ _ _
      refine hide fun hG => ?_
      obtain ⟨loc, acc, rfl, a1, a2, a3, a4, a5, a6⟩ := hJ0
      refine hG ?_
      clear hG
      refine hide fun hG => ?_
      obtain ⟨r, hr, rfl⟩ := map_at hx
      refine hG ?_
      clear hG
      have hi := at_lt hr
      refine .name (sto (by kernel_rfl) ?_)
      walk_at "go"
      refine opt_some (in_rowsC (at_last ..) (by walk_at "om")) ?_
      cases hc : acc.contains r with
      | true =>
        walk_at "go"
        refine hT _ ⟨_, acc, rfl, a1, a2, by walk_at "om", by walk_at "om", fun _ e => ?_, by walk_at "lk"⟩
        rw [e] at hc; cases hc
      | false =>
        walk_at "go"
        refine opt_some (m_append (at_last ..)) (mNo (by kernel_rfl) (by decide) (by kernel_rfl) ?_)
        walk_at "go"
        refine callG (.meth (.append (at_last ..) (by rw [List.length_map]; walk_at "om"))) ?_
        rw [set_last]
        walk_at "go"
        refine hT _ ⟨_, acc ++ [r], by rw [List.map_append]; rfl, ?_, ?_, by simp; omega, by walk_at "om", by simp, by walk_at "lk"⟩
        · rw [List.nodup_append]
          refine ⟨a1, by simp, fun a ha b hb e => ?_⟩
          rw [List.mem_singleton] at hb
          subst hb; subst e
          have : a ∉ acc := by simpa using hc
          exact this ha
        · intro z hz
          rcases List.mem_append.mp hz with hz | hz
          · exact a2 z hz
          · rw [List.mem_singleton.mp hz]; exact hall r (List.mem_of_getElem? hr)
end

section
open PySem PySem.W PyProof.Rows

noncomputable def pathL (r : List Str) : List Nat := r.flatMap fun s => 47 :: s.cps.toList
noncomputable def path (r : List Str) : Str := S (pathL r)
noncomputable def NoS (r : List Str) : Prop := ∀ s ∈ r, 47 ∉ s.cps.toList
noncomputable def PP (a b : List Str) : Bool := a.isPrefixOf b && decide (a.length < b.length)
theorem starts_S (a b : List Nat) : Txt.startswith (S a) (S b) = b.isPrefixOf a := by
  unfold Txt.startswith
  rw [StrLaws.subAt_eq, Bool.eq_iff_iff]
  simp only [Nat.zero_add, List.drop_zero, S_len, Bool.and_eq_true, decide_eq_true_eq, beq_iff_eq, List.isPrefixOf_iff_prefix]
  have e : ∀ l : List Nat, (S l).cps.toList = l := fun l => by simp [S]
  rw [e, e, List.prefix_iff_eq_take]
  constructor
  · rintro ⟨_, h⟩; exact h.symm
  · intro h
    refine ⟨?_, h.symm⟩
    have := congrArg List.length h
    rw [List.length_take] at this; omega
theorem name_pre {n m P P' : List Nat} (hn : 47 ∉ n) (hm : 47 ∉ m) (hP : ∃ t, P = 47 :: t) (hP' : P' = [] ∨ ∃ t, P' = 47 :: t) : n ++ P <+: m ++ P' ↔ n = m ∧ P <+: P' := by
  induction n generalizing m with
  | nil =>
    cases m with
    | nil => simp
    | cons c m =>
      obtain ⟨t, rfl⟩ := hP
      simp only [List.nil_append, List.cons_append, List.cons_prefix_cons]
      constructor
      · rintro ⟨e, _⟩; subst e; exact absurd (List.mem_cons_self ..) hm
      · rintro ⟨e, _⟩; cases e
  | cons a n ih =>
    cases m with
    | nil =>
      rcases hP' with rfl | ⟨t, rfl⟩
      · simp
      · simp only [List.nil_append, List.cons_append, List.cons_prefix_cons]
        constructor
        · rintro ⟨e, _⟩; subst e; exact absurd (List.mem_cons_self ..) hn
        · rintro ⟨e, _⟩; cases e
    | cons c m =>
      simp only [List.cons_append, List.cons_prefix_cons, List.cons.injEq]
      rw [ih (fun h => hn (.tail _ h)) (fun h => hm (.tail _ h)), and_assoc]
theorem pathL_cons (s : Str) (r : List Str) : pathL (s :: r) = 47 :: (s.cps.toList ++ pathL r) := by simp [pathL]
theorem pathL_app (r : List Str) (s : Str) : pathL (r ++ [s]) = pathL r ++ 47 :: s.cps.toList := by simp [pathL]
theorem path_pre {r y : List Str} (hr : NoS r) (hy : NoS y) : pathL r ++ [47] <+: pathL y ↔ r <+: y ∧ r.length < y.length := by
  induction r generalizing y with
  | nil =>
    cases y with
    | nil => simp [pathL]
    | cons b y => rw [pathL_cons]; simp [pathL]
  | cons a r ih =>
    cases y with
    | nil => simp [pathL]
    | cons b y =>
      rw [pathL_cons, pathL_cons, List.cons_append, List.cons_prefix_cons, List.append_assoc, name_pre (hr a (.head _)) (hy b (.head _)), ih (fun s hs => hr s (.tail _ hs)) (fun s hs => hy s (.tail _ hs)), List.cons_prefix_cons]
      · simp only [true_and, List.length_cons, Nat.add_lt_add_iff_right]
        constructor
        · rintro ⟨h1, h2, h3⟩; exact ⟨⟨Str_ext h1, h2⟩, h3⟩
        · rintro ⟨⟨rfl, h2⟩, h3⟩; exact ⟨rfl, h2, h3⟩
      · cases r with
        | nil => exact ⟨[], rfl⟩
        | cons c r => exact ⟨_, by rw [pathL_cons]; rfl⟩
      · cases y with
        | nil => exact .inl rfl
        | cons c y => exact .inr ⟨_, pathL_cons ..⟩
theorem path_preB {r y : List Str} (hr : NoS r) (hy : NoS y) : (pathL r ++ [47]).isPrefixOf (pathL y) = PP r y := by
  rw [Bool.eq_iff_iff, List.isPrefixOf_iff_prefix, path_pre hr hy]
  simp [PP, List.isPrefixOf_iff_prefix]
theorem path_inj {r y : List Str} (hr : NoS r) (hy : NoS y) (e : pathL r = pathL y) : r = y := by
  have key : ∀ {r y : List Str}, NoS r → NoS y → pathL r = pathL y → r <+: y := by
    intro r y hr hy e
    have h : pathL r ++ [47] <+: pathL (y ++ [("" : Str)]) := by
      rw [pathL_app, e]; exact List.prefix_refl _
    obtain ⟨h1, h2⟩ := (path_pre hr (fun s hs => by
      rcases List.mem_append.mp hs with hs | hs
      · exact hy s hs
      · rw [List.mem_singleton.mp hs]; decide +kernel)).mp h
    rw [List.length_append, List.length_singleton] at h2
    rw [List.prefix_iff_eq_take] at h1 ⊢
    rw [List.take_append_of_le_length (by walk_at "om")] at h1
    exact h1
  have h1 := key hr hy e
  have h2 := key hy hr e.symm
  exact h1.eq_of_length (Nat.le_antisymm h1.length_le h2.length_le)
theorem nm_noS : ∀ s ∈ nm, 47 ∉ s.cps.toList := by decide +kernel
theorem nm_ab : ∀ s ∈ nm, ∀ c ∈ s.cps.toList, c = 97 ∨ c = 98 := by decide +kernel
theorem Row.noS {r : List Str} (h : Row r) : NoS r := fun s hs => nm_noS s (h.nm s hs)
theorem take_pre (r y : List Str) : (y.take r.length == r) = r.isPrefixOf y := by
  rw [Bool.eq_iff_iff, beq_iff_eq, List.isPrefixOf_iff_prefix, List.prefix_iff_eq_take, eq_comm]
theorem PP_eq (a b : List Str) : (!(a == b) && b.take a.length == a) = PP a b := by
  rw [take_pre]
  unfold PP
  rw [Bool.eq_iff_iff]
  simp only [Bool.and_eq_true, Bool.not_eq_true', beq_eq_false_iff_ne, List.isPrefixOf_iff_prefix, decide_eq_true_eq]
  constructor
  · rintro ⟨h1, h2⟩
    exact ⟨h2, Nat.lt_of_le_of_ne h2.length_le fun e => h1 (h2.eq_of_length e)⟩
  · rintro ⟨h1, h2⟩
    exact ⟨fun e => by rw [e] at h2; omega, h1⟩
theorem PP_iff {a b : List Str} : PP a b = true ↔ a <+: b ∧ a.length < b.length := by simp [PP, List.isPrefixOf_iff_prefix]

noncomputable def dep (rows : List (List Str)) (r : List Str) : Nat := (rows.filter fun o => PP o r).length
theorem dep_lt {rows : List (List Str)} (hn : rows.Nodup) {r r' : List Str} (hr : r ∈ rows) (h : PP r r' = true) : dep rows r < dep rows r' := by
  have h' := PP_iff.mp h
  have : (r :: rows.filter fun o => PP o r).length ≤ (rows.filter fun o => PP o r').length := sub_len (List.nodup_cons.mpr ⟨fun e => by
      have := PP_iff.mp (List.mem_filter.mp e).2
      omega, hn.filter _⟩) fun x hx => by
    rcases List.mem_cons.mp hx with rfl | hx
    · exact List.mem_filter.mpr ⟨hr, h⟩
    · obtain ⟨h1, h2⟩ := List.mem_filter.mp hx
      have h2 := PP_iff.mp h2
      exact List.mem_filter.mpr ⟨h1, PP_iff.mpr ⟨h2.1.trans h'.1, by walk_at "om"⟩⟩
  exact this
theorem longest {α : Type} (f : α → Nat) : ∀ l : List α, l ≠ [] → ∃ x ∈ l, ∀ y ∈ l, f y ≤ f x
  | [], h => absurd rfl h
  | [a], _ => ⟨a, .head _, fun y hy => by rw [List.mem_singleton.mp hy]; exact Nat.le_refl _⟩
  | a :: b :: l, _ => by
    refine hide fun hG => ?_
    obtain ⟨x, h1, h2⟩ := longest f (b :: l) (by simp)
    refine hG ?_
    clear hG
    by_cases h : f x ≤ f a
    · exact ⟨a, .head _, fun y hy => by
        rcases List.mem_cons.mp hy with rfl | hy
        · exact Nat.le_refl _
        · exact Nat.le_trans (h2 y hy) h⟩
    · exact ⟨x, .tail _ h1, fun y hy => by
        rcases List.mem_cons.mp hy with rfl | hy
        · omega
        · exact h2 y hy⟩
theorem dep_below {rows : List (List Str)} (hn : rows.Nodup) {r' : List Str} {t : Nat} (h : t < dep rows r') : ∃ r ∈ rows, PP r r' = true ∧ t ≤ dep rows r := by
  have hne : (rows.filter fun o => PP o r') ≠ [] := fun e => by unfold dep at h; rw [e] at h; cases h
  refine hide fun hG => ?_
  obtain ⟨r, h1, h2⟩ := longest List.length _ hne
  refine hG ?_
  clear hG
  obtain ⟨h3, h4⟩ := List.mem_filter.mp h1
  refine ⟨r, h3, h4, ?_⟩
  have : (rows.filter fun o => PP o r').length ≤ (r :: rows.filter fun o => PP o r).length := sub_len (hn.filter _) fun q hq => by
    have hql := h2 q hq
    obtain ⟨k1, k2⟩ := List.mem_filter.mp hq
    have hp := PP_iff.mp k2
    have hp' := PP_iff.mp h4
    have hpre : q <+: r := List.prefix_of_prefix_length_le hp.1 hp'.1 hql
    by_cases e : q.length = r.length
    · rw [hpre.eq_of_length e]; exact .head _
    · exact .tail _ (List.mem_filter.mpr ⟨k1, PP_iff.mpr ⟨hpre, by walk_at "om"⟩⟩)
  unfold dep at h ⊢
  rw [List.length_cons] at this
  omega
theorem dep_at {rows : List (List Str)} (hn : rows.Nodup) {t : Nat} : ∀ (n : Nat) {r' : List Str}, r' ∈ rows → dep rows r' ≤ n → t ≤ dep rows r' → ∃ r ∈ rows, dep rows r = t
  | 0, r', hr, h1, h2 => ⟨r', hr, by walk_at "om"⟩
  | n + 1, r', hr, h1, h2 => by
    by_cases e : dep rows r' = t
    · exact ⟨r', hr, e⟩
    · refine hide fun hG => ?_
      obtain ⟨r, h3, h4, h5⟩ := dep_below hn (show t < dep rows r' by walk_at "om")
      refine hG ?_
      clear hG
      have := dep_lt hn h3 h4
      exact dep_at hn n h3 (by walk_at "om") h5
noncomputable def lvl (rows : List (List Str)) (t : Nat) : List Str := sortS ((rows.filter fun r => dep rows r == t).map path)
theorem levels {rows : List (List Str)} (hR : Rows rows) {suc : Str → List Str} (hs : ∀ r ∈ rows, ∀ v, v ∈ suc (path r) ↔ ∃ r' ∈ rows, v = path r' ∧ PP r r' = true) {M : Nat} (hM : ∀ r ∈ rows, dep rows r ≤ M) (hM' : ∃ r ∈ rows, dep rows r = M) {left : List Str} {out : List (List Str)} (h : Rnds suc left out) :
    ∀ t, t ≤ M + 1 → left.Nodup → (∀ v, v ∈ left ↔ ∃ r ∈ rows, t ≤ dep rows r ∧ v = path r) → out = ((List.range (M + 1)).drop t).map (lvl rows) := by
  have inj : ∀ r ∈ rows, ∀ r' ∈ rows, path r = path r' → r = r' := fun r hr r' hr' e => path_inj (hR.row r hr).noS (hR.row r' hr').noS (S_inj.mp e)
  have fr : ∀ (left : List Str) (t : Nat), (∀ v, v ∈ left ↔ ∃ r ∈ rows, t ≤ dep rows r ∧ v = path r) → ∀ r ∈ rows, t ≤ dep rows r → (E suc left (path r) = 0 ↔ dep rows r = t) := by
    intro left t hl r hr ht
    rw [E_zero]
    constructor
    · intro h
      refine Nat.le_antisymm (Nat.not_lt.mp fun hlt => ?_) ht
      refine hide fun hG => ?_
      obtain ⟨q, h1, h2, h3⟩ := dep_below hR.nd hlt
      refine hG ?_
      clear hG
      exact h (path q) ((hl _).mpr ⟨q, h1, h3, rfl⟩) ((hs q h1 _).mpr ⟨r, hr, rfl, h2⟩)
    · intro e u hu hm
      refine hide fun hG => ?_
      obtain ⟨q, h1, h2, rfl⟩ := (hl u).mp hu
      refine hG ?_
      clear hG
      refine hide fun hG => ?_
      obtain ⟨r', h3, h4, h5⟩ := (hs q h1 _).mp hm
      refine hG ?_
      clear hG
      obtain rfl := inj r hr r' h3 h4
      have := dep_lt hR.nd h1 h5
      omega
  induction h with
  | @stop left hf =>
    intro t ht hn hl
    by_cases e : t = M + 1
    · subst e; rw [List.drop_of_length_le (by simp)]; rfl
    · refine hide fun hG => ?_
      obtain ⟨r0, k1, k2⟩ := hM'
      refine hG ?_
      clear hG
      refine hide fun hG => ?_
      obtain ⟨r, h1, h2⟩ := dep_at hR.nd M k1 (by walk_at "om") (show t ≤ dep rows r0 by walk_at "om")
      refine hG ?_
      clear hG
      have : path r ∈ front suc left := List.mem_filter.mpr ⟨(hl _).mpr ⟨r, h1, by walk_at "om", rfl⟩, by rw [beq_iff_eq, fr left t hl r h1 (by walk_at "om")]; exact h2⟩
      rw [hf] at this; cases this
  | @go left out hf hr ih =>
    intro t ht hn hl
    obtain ⟨v, hv⟩ := List.exists_mem_of_ne_nil _ hf
    refine hide fun hG => ?_
    obtain ⟨q, k1, k2, rfl⟩ := (hl v).mp (List.mem_filter.mp hv).1
    refine hG ?_
    clear hG
    have htM : t ≤ M := Nat.le_trans k2 (hM q k1)
    have hd : (List.range (M + 1)).drop t = t :: (List.range (M + 1)).drop (t + 1) := by
      rw [List.drop_eq_getElem_cons (by simp; omega)]; simp
    rw [hd, List.map_cons]
    congr 1
    · refine sortS_nd (hn.filter _) ?_ fun v => ?_
      · rw [List.Nodup, List.pairwise_map]
        exact (hR.nd.filter _).imp_of_mem fun ha hb h e => h (inj _ (List.mem_filter.mp ha).1 _ (List.mem_filter.mp hb).1 e)
      · unfold front
        rw [List.mem_filter, hl, beq_iff_eq, List.mem_map]
        constructor
        · intro hJ0
          refine hide fun hG => ?_
          obtain ⟨⟨r, h1, h2, rfl⟩, h3⟩ := hJ0
          refine hG ?_
          clear hG
          exact ⟨r, List.mem_filter.mpr ⟨h1, by rw [beq_iff_eq]; exact (fr left t hl r h1 h2).mp h3⟩, rfl⟩
        · intro hJ0
          refine hide fun hG => ?_
          obtain ⟨r, h1, rfl⟩ := hJ0
          refine hG ?_
          clear hG
          obtain ⟨h1, h2⟩ := List.mem_filter.mp h1
          rw [beq_iff_eq] at h2
          exact ⟨⟨r, h1, by walk_at "om", rfl⟩, (fr left t hl r h1 (by walk_at "om")).mpr h2⟩
    · refine ih (t + 1) (by walk_at "om") (hn.filter _) fun v => ?_
      unfold rest
      rw [List.mem_filter, hl, Bool.not_eq_true', beq_eq_false_iff_ne]
      constructor
      · intro hJ0
        refine hide fun hG => ?_
        obtain ⟨⟨r, h1, h2, rfl⟩, h3⟩ := hJ0
        refine hG ?_
        clear hG
        rw [Ne, fr left t hl r h1 h2] at h3
        exact ⟨r, h1, by walk_at "om", rfl⟩
      · intro hJ0
        refine hide fun hG => ?_
        obtain ⟨r, h1, h2, rfl⟩ := hJ0
        refine hG ?_
        clear hG
        refine ⟨⟨r, h1, by walk_at "om", rfl⟩, ?_⟩
        rw [Ne, fr left t hl r h1 (by walk_at "om")]; omega
end

section
open PySem PySem.W PyProof.Rows

/-- a file's or a folder's parts -/
structure Fil (r : List Str) : Prop where
  ch : ∀ s ∈ r, ∀ c ∈ s.cps.toList, c = 97 ∨ c = 98 ∨ c = 102
  sh : ∀ s ∈ r, s.length ≤ 2
  hi : r.length ≤ 6
theorem Fil.noS {r : List Str} (h : Fil r) : NoS r := fun s hs hc => by
  have := h.ch s hs 47 hc
  omega
theorem nm_sh : ∀ s ∈ nm, s.length ≤ 2 := by decide +kernel
theorem Fil.of {r : List Str} (h : ∀ s ∈ r, s ∈ nm) (hl : r.length ≤ 6) : Fil r := ⟨fun s hs c hc => by have := nm_ab s (h s hs) c hc; omega, fun s hs => nm_sh s (h s hs), hl⟩
theorem Fil.withF {r : List Str} (h : ∀ s ∈ r, s ∈ nm) (hl : r.length ≤ 5) : Fil (r ++ [("f" : Str)]) := by
  have hf := Fil.of h (by walk_at "om")
  refine ⟨fun s hs c hc => ?_, fun s hs => ?_, by simp; omega⟩
  · rcases List.mem_append.mp hs with hs | hs
    · exact hf.ch s hs c hc
    · rw [List.mem_singleton.mp hs] at hc
      have : c ∈ [102] := hc
      simp at this; omega
  · rcases List.mem_append.mp hs with hs | hs
    · exact hf.sh s hs
    · rw [List.mem_singleton.mp hs]; decide +kernel
theorem Fil.len {r : List Str} (h : Fil r) : (pathL r).length ≤ 3 * r.length ∧ (r.map (·.length)).sum ≤ 2 * r.length := by
  have h2 := h.sh
  clear h
  induction r with
  | nil => simp [pathL]
  | cons s r ih =>
    have := ih fun x hx => h2 x (.tail _ hx)
    have hs : s.cps.toList.length ≤ 2 := by have := h2 s (.head _); simpa [Str.length] using this
    have hs' := h2 s (.head _)
    rw [pathL_cons, List.map_cons, List.sum_cons]
    simp only [List.length_cons, List.length_append]
    omega
theorem S_of (x : Str) : x = S x.cps.toList := Str_ext (by simp [S])
theorem join_path {r : List Str} (h : r ≠ []) : ("/" : Str) ++ Txt.join "/" r = path r := by
  unfold Txt.join
  rw [StrLaws.glued_eq_join]
  have hs : ("/" : Str) = S [47] := by decide +kernel
  rw [hs]
  unfold path
  induction r with
  | nil => exact absurd rfl h
  | cons a r ih =>
    cases r with
    | nil =>
      show S [47] ++ a = _
      rw [S_of a, S_app, pathL_cons]; simp [pathL, S]
    | cons b r =>
      have ih := ih (by simp)
      have e : Str.join (S [47]) (a :: b :: r) = a ++ S [47] ++ Str.join (S [47]) (b :: r) := rfl
      have e2 : a ++ S [47] ++ Str.join (S [47]) (b :: r) = a ++ (S [47] ++ Str.join (S [47]) (b :: r)) := by
        rw [S_of a, S_of (Str.join (S [47]) (b :: r)), S_app, S_app, S_app, S_app, List.append_assoc]
      have e3 : a ++ S (pathL (b :: r)) = S (a.cps.toList ++ pathL (b :: r)) := by rw [← S_app, ← S_of]
      rw [e, e2, ih, e3, S_app, pathL_cons a]; rfl
theorem strOk_S {l : List Nat} (h : ∀ c ∈ l, c < 200) : PyData.strOk (S l) = true := by
  unfold PyData.strOk S
  simp only [List.all_toArray, List.all_eq_true, decide_eq_true_eq]
  intro c hc; have := h c hc; omega
theorem Fil.pc {r : List Str} (h : Fil r) : ∀ c ∈ pathL r, c = 97 ∨ c = 98 ∨ c = 102 ∨ c = 47 := by
  intro c hc
  unfold pathL at hc
  refine hide fun hG => ?_
  obtain ⟨s, hs, hc⟩ := List.mem_flatMap.mp hc
  refine hG ?_
  clear hG
  rcases List.mem_cons.mp hc with rfl | hc
  · simp
  · have := h.ch s hs c hc; omega
theorem c_path {n : Nat} {r : List Str} {cells : List Cell} {Q : TV → List Cell → Prop} (h : Fil r) (h0 : r ≠ []) (q : Q (.str (path r)) cells) : (ev G2 (n + 30)).c true (.fn "_law_path") [rowTV r] cells Q := by
  refine cFn (f := f_path) (by kernel_rfl) (bindS (l := [("row", rowTV r)]) (by kernel_rfl) (by kernel_rfl) (by kernel_rfl) ?_)
  have hj := join_path h0
  have hl := h.len
  have hh := h.hi
  obtain ⟨J, hJ⟩ : ∃ J, Txt.join "/" r = S J := ⟨_, S_of _⟩
  have hp : pathL r = 47 :: J := by
    have hs : ("/" : Str) = S [47] := by decide +kernel
    rw [hJ, hs, S_app] at hj
    exact (S_inj.mp hj).symm
  walk_at "go"
  refine opt_some m_join (mNo (by kernel_rfl) (by decide) (by kernel_rfl) ?_)
  walk_at "go"
  refine callG (.fn rfl (.join (xs := r.map .str) rfl (strList_map r) (by walk_at "om") (by decide) (by walk_at "om") (by
    rw [hJ]
    refine strOk_S fun c hc => ?_
    have := h.pc c (by rw [hp]; exact .tail _ hc)
    omega))) ?_
  refine ⟨_, .adds (by
    rw [hJ, S_len]
    have : (pathL r).length = J.length + 1 := by rw [hp]; rfl
    show 1 + J.length ≤ lim
    walk_at "om"), ?_⟩
  walk_at "go"
  rw [hj]
  exact q

theorem sl_list {xs : List TV} {lo hi : Option Int} {cells : List Cell} {a b : TV} (h : xs.length ≤ lim) (ha : intPart a = some lo) (hb : intPart b = some hi) : sliceTV cells (.list xs) a b .none = some (.list (pick xs lo hi none)) := v_slice rfl rfl h ha hb
theorem m_extend {G : TG} {cells : List Cell} {k : Nat} {xs : List TV} (e : cells[k]? = some (.list xs)) : methOf G cells (.ref k) "extend" = some (.g (.builtin "list.extend")) := by
  show methC G cells "extend" cells[k]? = _
  rw [e]
  kernel_rfl
noncomputable def files0 : List (List Str) := [["ab"], []]
/-- the files -/
structure Files (l : List (List Str)) : Prop where
  nm : ∀ r ∈ l, ∀ s ∈ r, s ∈ nm
  hi : ∀ r ∈ l, r.length ≤ 4
  len : l.length ≤ 23
theorem c_files {n : Nat} {rows : List (List Str)} {cells : List Cell} {Q : TV → List Cell → Prop} (hR : Rows rows) (h : ∀ files cells', Files files → Q (.list (files.map rowTV)) cells') : (ev G2 (n + 60)).c true (.fn "_law_files") [.list (rows.map rowTV)] cells Q := by
  refine cFn (f := f_files) (by kernel_rfl) (bindS (l := [("rows", .list (rows.map rowTV))]) (by kernel_rfl) (by kernel_rfl) (by kernel_rfl) ?_)
  walk_at "go"
  refine .asg (fun _ => by rfl) (.list ?_)
  walk_at "go"
  refine ⟨by simp [lim], ?_⟩
  rw [frzs_nr rfl]
  dsimp only
  walk_at "go"
  refine ⟨by simp [lim], ?_⟩
  rw [frzs_nr rfl]
  dsimp only
  walk_at "go"
  refine ⟨by simp [lim], ?_⟩
  rw [frzs_nr rfl]
  dsimp only
  walk_at "go"
  refine .for_ rfl (fun _ _ => by rfl) ?_
  walk_at "go"
  have hl := hR.hi
  have hrl : (rows.map rowTV).length ≤ lim := by rw [List.length_map]; walk_at "om"
  refine walkL hrl ?_
  refine for_inv (fun i es => ∃ loc, ∃ files : List (List Str), es = ⟨loc, cells ++ [.list (files.map rowTV)]⟩ ∧ (∀ r ∈ files, ∀ s ∈ r, s ∈ nm) ∧ (∀ r ∈ files, r.length ≤ 4) ∧ files.length ≤ 2 + 3 * i ∧ i ≤ 7 ∧ loc "files" = some (.ref cells.length))
    (fun i es _ => standsL hrl) ?hend ?step ⟨_, files0, rfl, by decide +kernel, by decide +kernel, by decide, by walk_at "om", by walk_at "lk"⟩
  case hend =>
    intro es hJ0
    refine hide fun hG => ?_
    obtain ⟨loc, files, rfl, a1, a2, a3, a4, a5⟩ := hJ0
    refine hG ?_
    clear hG
    rw [List.length_map] at a3
    walk_at "go"
    have hf : frz (.ref cells.length) (cells ++ [Cell.list (files.map rowTV)]) = (.list (files.map rowTV), (cells ++ [Cell.list (files.map rowTV)]).set cells.length .dead) := frz_L (at_last ..)
    rw [hf]
    exact h files _ ⟨a1, a2, by walk_at "om"⟩
  case step =>
    intro i x es hx hJ0 T hT _ _ _
    refine hide fun hG => ?_
    obtain ⟨loc, files, rfl, a1, a2, a3, a4, a5⟩ := hJ0
    refine hG ?_
    clear hG
    refine hide fun hG => ?_
    obtain ⟨r, hr, rfl⟩ := map_at hx
    refine hG ?_
    clear hG
    have hi := at_lt hr
    have hrow := hR.row r (List.mem_of_getElem? hr)
    have hlo := hrow.lo
    have hhi := hrow.hi
    have hrm : (r.map TV.str).length ≤ lim := by rw [List.length_map]; walk_at "om"
    refine .name (sto (by kernel_rfl) ?_)
    walk_at "go"
    refine opt_some (m_extend (at_last ..)) (mNo (by kernel_rfl) (by decide) (by kernel_rfl) ?_)
    walk_at "go"
    refine ⟨rfl, by kernel_rfl, fun _ _ => by rfl, by kernel_rfl, by decide, ?_⟩
    walk_at "go"
    walk_at "sl"
    refine ⟨_, rfl, ?_⟩
    refine opt_some (sl_list hrm rfl rfl) ?_
    rw [pick_init]
    walk_at "go"
    refine ⟨by simp [lim], ?_⟩
    rw [frzs_nr rfl]
    dsimp only
    refine ⟨_, .addl rfl rfl (by simp [lim]; omega), ?_⟩
    walk_at "go"
    refine ⟨by simp [lim], ?_⟩
    rw [frzs_nr rfl]
    dsimp only
    have e3 : [TV.list (r.map TV.str), TV.list (r.map TV.str).dropLast, TV.list (r.map TV.str ++ [TV.str "b"])] = [r, r.dropLast, r ++ [("b" : Str)]].map rowTV := by
      show _ = [TV.list (r.map TV.str), TV.list (r.dropLast.map TV.str), TV.list ((r ++ [("b" : Str)]).map TV.str)]
      rw [List.map_append, List.map_dropLast]; rfl
    rw [e3]
    refine walkL (by simp [lim]) ?_
    refine gen_fmM (fun o => if files.contains o then none else some (rowTV o)) (fun es => ∃ loc, es = ⟨loc, cells ++ [.list (files.map rowTV)]⟩ ∧ loc "files" = some (.ref cells.length)) (fun es _ => standsL (by simp [lim])) ?step2 ⟨_, rfl, by walk_at "lk"⟩ (by simp [lim]) ?fin
    case step2 =>
      intro y hy es hJ0 T' hT'
      refine hide fun hG => ?_
      obtain ⟨loc, rfl, h1⟩ := hJ0
      refine hG ?_
      clear hG
      refine .name (sto (by kernel_rfl) ?_)
      walk_at "go"
      refine opt_some (in_rowsC (at_last ..) (by walk_at "om")) ?_
      cases hc : files.contains y with
      | true =>
        rw [hc] at hT'
        walk_at "go"
        exact hT' _ ⟨_, rfl, by walk_at "lk"⟩
      | false =>
        rw [hc] at hT'
        walk_at "go"
        exact hT' _ ⟨_, rfl, by walk_at "lk"⟩
    case fin =>
      intro es hJ0
      refine hide fun hG => ?_
      obtain ⟨loc', rfl, h1⟩ := hJ0
      refine hG ?_
      clear hG
      have e4 : [r, r.dropLast, r ++ [("b" : Str)]].filterMap (fun o => if files.contains o then none else some (rowTV o)) = ([r, r.dropLast, r ++ [("b" : Str)]].filter fun o => !files.contains o).map rowTV := by
        generalize [r, r.dropLast, r ++ [("b" : Str)]] = l
        induction l with
        | nil => rfl
        | cons a l ih =>
          rw [List.filterMap_cons, List.filter_cons, ih]
          cases files.contains a <;> simp
      have hfl : ([r, r.dropLast, r ++ [("b" : Str)]].filter fun o => !files.contains o).length ≤ 3 := List.length_filter_le ..
      have hfm : ∀ z ∈ ([r, r.dropLast, r ++ [("b" : Str)]].filter fun o => !files.contains o), (∀ s ∈ z, s ∈ nm) ∧ z.length ≤ 4 := by
        intro z hz
        have hz := (List.mem_filter.mp hz).1
        simp only [List.mem_cons, List.not_mem_nil, or_false] at hz
        rcases hz with rfl | rfl | rfl
        · exact ⟨hrow.nm, by walk_at "om"⟩
        · exact ⟨fun s hs => hrow.nm s (List.dropLast_subset _ hs), by rw [List.length_dropLast]; omega⟩
        · refine ⟨fun s hs => ?_, by rw [List.length_append, List.length_singleton]; omega⟩
          rcases List.mem_append.mp hs with hs | hs
          · exact hrow.nm s hs
          · rw [List.mem_singleton.mp hs]; decide +kernel
      rw [e4]
      generalize ([r, r.dropLast, r ++ [("b" : Str)]].filter fun o => !files.contains o) = new at *
      refine ⟨by rw [List.length_map]; walk_at "om", ?_⟩
      walk_at "go"
      refine callG (.meth (.extend (at_last ..) (by rw [List.length_map, List.length_map]; walk_at "om"))) ?_
      rw [set_last]
      walk_at "go"
      refine hT _ ⟨_, files ++ new, by rw [List.map_append], ?_, ?_, by rw [List.length_append]; omega, by walk_at "om", by walk_at "lk"⟩
      · intro z hz
        rcases List.mem_append.mp hz with hz | hz
        · exact a1 z hz
        · exact (hfm z hz).1
      · intro z hz
        rcases List.mem_append.mp hz with hz | hz
        · exact a2 z hz
        · exact (hfm z hz).2
end

section
open PySem PySem.W PyProof.Rows

theorem eq_row {cells : List Cell} (a b : List Str) : cmpTV cells .Eq (rowTV a) (rowTV b) = some (a == b) := by
  have e : ∀ r, pyOf cells (rowTV r) = some (rowPy r) := fun r => toPy_row (cells := cells) r
  exact (eq_py (e a) (e b) ⟨by rw [depth_row]; decide, by rw [depth_row]; decide⟩).trans (by rw [eqv_row])
theorem ne_row {cells : List Cell} (a b : List Str) : cmpTV cells .NotEq (rowTV a) (rowTV b) = some (!(a == b)) := congrArg (Option.map (!·)) (eq_row (cells := cells) a b)
theorem rng_small {b : Nat} (hb : b ≤ 1000) : Builtin.Range.small 0 (b : Int) 1 = true ∧ 0 ≤ Builtin.Range.rangeSize 0 (b : Int) 1 ∧ Builtin.Range.rangeSize 0 (b : Int) 1 = (b : Int) := by
  have e : Builtin.Range.rangeSize 0 (b : Int) 1 = (b : Int) := by
    unfold Builtin.Range.rangeSize
    rw [if_pos (by decide)]
    split <;> omega
  refine ⟨?_, by rw [e]; omega, e⟩
  unfold Builtin.Range.small
  rw [e]
  have f : ∀ i : Int, -10000 ≤ i → i ≤ 10000 → Builtin.Range.rangeFitsLong i = true := fun i h1 h2 => by
    unfold Builtin.Range.rangeFitsLong
    rw [Bool.and_eq_true]
    exact ⟨decide_eq_true (by walk_at "om"), decide_eq_true (by walk_at "om")⟩
  rw [f _ (by walk_at "om") (by walk_at "om"), f _ (by walk_at "om") (by walk_at "om"), f _ (by walk_at "om") (by walk_at "om"), f _ (by walk_at "om") (by walk_at "om")]
  rw [if_pos (by decide)]
  simp
theorem standsR {b : Nat} {cells : List Cell} (hb : b ≤ 1000) : stands .rng cells (.rng 0 (b : Int) 1) ((List.range b).map fun (i : Nat) => TV.int (i : Int)) := by
  refine hide fun hG => ?_
  obtain ⟨h1, h2, h3⟩ := rng_small hb
  refine hG ?_
  clear hG
  refine ⟨⟨0, (b : Int), 1, rfl, ⟨h1, h2⟩, ?_⟩, by rw [List.length_map, List.length_range]; walk_at "om"⟩
  unfold rangeL
  rw [h3, Int.toNat_natCast]
  refine List.map_congr_left fun i _ => ?_
  rw [Int.zero_add, Int.mul_one]
theorem walkR {b : Nat} {loc : Str → Option TV} {cells : List Cell} {Q : WK → List TV → ES → Prop} (hb : b ≤ 1000) (q : Q .rng ((List.range b).map fun (i : Nat) => TV.int (i : Int)) ⟨loc, cells⟩) : walks ⟨loc, cells⟩ (.rng 0 (b : Int) 1) Q := ⟨.rng, _, standsR hb, q⟩
theorem range_fm {α β : Type} (l : List α) (g : α → Option β) : (List.range l.length).filterMap (fun k => (l[k]?).bind g) = l.filterMap g := by
  have key : ∀ m, m ≤ l.length → (List.range m).filterMap (fun k => (l[k]?).bind g) = (l.take m).filterMap g := by
    intro m
    induction m with
    | zero => intro _; rfl
    | succ m ih =>
      intro hm
      rw [List.range_succ, List.filterMap_append, ih (by walk_at "om"), List.take_add_one, List.filterMap_append]
      congr 1
      have e : l[m]? = some l[m] := List.getElem?_eq_getElem (by walk_at "om")
      simp only [List.filterMap_cons, List.filterMap_nil, e, Option.bind_some, Option.toList]
  rw [key _ (Nat.le_refl _), List.take_length]
theorem filter_fm {α : Type} (p : α → Bool) (h : α → TV) (l : List α) : l.filterMap (fun x => if p x then some (h x) else none) = (l.filter p).map h := by
  induction l with
  | nil => rfl
  | cons a l ih =>
    rw [List.filterMap_cons, List.filter_cons, ih]
    cases p a <;> simp
theorem intList_map (l : List Int) : intList (l.map .int) = some l := by
  induction l with
  | nil => rfl
  | cons a l ih =>
    show ((some a).bind fun s => (intList (l.map .int)).map (s :: ·)) = _
    rw [ih]
    rfl
noncomputable def bitS (b : Bool) : Str := if b then "1" else "0"
theorem take1 {α : Type} (p : α → Bool) (l : List α) : (((l.filter p).take 1).length : Int) = if l.any p then 1 else 0 := by
  induction l with
  | nil => rfl
  | cons a l ih =>
    rw [List.filter_cons, List.any_cons]
    cases p a <;> simp_all
theorem str_bit {cells : List Cell} (b : Bool) : TyC cells "str" [.int (if b = true then 1 else 0)] (.str (bitS b)) := by
  cases b
  · exact .strI (by decide) (by decide +kernel)
  · exact .strI (by decide) (by decide +kernel)
theorem item_mp {cells : List Cell} {α : Type} {f : α → TV} {l : List α} {i : Nat} {x : α} (h : l[i]? = some x) (hl : l.length ≤ lim) : itemTV cells (.list (l.map f)) (.int (i : Int)) = some (f x) :=
  item_list (by rw [List.getElem?_map, h]; rfl) (by rw [List.length_map]; exact hl)
/-- what is due -/
noncomputable def dueTV (rounds : List (List Str)) (inside : List Str) : TV := .list [.list (rounds.map rowTV), .list ((List.replicate 5 inside).map rowTV)]
noncomputable def insideOf (rows files : List (List Str)) : List Str := files.map fun f => bitS (rows.any fun r => r.isPrefixOf f)
theorem c_due {n : Nat} {rows files : List (List Str)} {cells : List Cell} {Q : TV → List Cell → Prop} (hR : Rows rows) (hF : Files files)
    (h : ∀ M, (∀ r ∈ rows, dep rows r ≤ M) → (∃ r ∈ rows, dep rows r = M) → ∀ cells', Q (dueTV ((List.range (M + 1)).map (lvl rows)) (insideOf rows files)) cells') :
    (ev G2 (n + 90)).c true (.fn "_law_due") [.list (rows.map rowTV), .list (files.map rowTV)] cells Q := by
  have hl := hR.hi
  have hfl := hF.len
  have hrl : rows.length ≤ lim := by walk_at "om"
  have hrl' : (rows.map rowTV).length ≤ lim := by rw [List.length_map]; exact hrl
  have hfl' : files.length ≤ lim := by walk_at "om"
  have hfl2 : (files.map rowTV).length ≤ lim := by rw [List.length_map]; exact hfl'
  have hdep : ∀ r, dep rows r ≤ 7 := fun r => Nat.le_trans (List.length_filter_le ..) hl
  refine cFn (f := f_due) (by kernel_rfl) (bindS (l := [("rows", .list (rows.map rowTV)), ("files", .list (files.map rowTV))]) (by kernel_rfl) (by kernel_rfl) (by kernel_rfl) ?_)
  walk_at "go"
  refine .asg (fun _ => by rfl) (.comp ⟨rfl, by kernel_rfl, fun _ _ => by rfl, by kernel_rfl, by decide, ?_⟩)
  walk_at "go"
  refine walkL hrl' ?_
  refine gen_fmM (fun r => some (.int (dep rows r : Nat))) (fun es => ∃ loc, es = ⟨loc, cells⟩ ∧ loc "rows" = some (.list (rows.map rowTV))) (fun es _ => standsL hrl') ?step1 ⟨_, rfl, by walk_at "lk"⟩ hrl ?fin1
  case step1 =>
    intro r hr es hJ0 T hT
    refine hide fun hG => ?_
    obtain ⟨loc, rfl, h1⟩ := hJ0
    refine hG ?_
    clear hG
    refine .name (sto (by kernel_rfl) ?_)
    walk_at "go"
    refine ⟨rfl, by kernel_rfl, fun _ _ => by rfl, by kernel_rfl, by decide, ?_⟩
    walk_at "go"
    refine walkL hrl' ?_
    refine gen_fmM (fun o => if PP o r then some (rowTV o) else none) (fun es => ∃ loc, es = ⟨loc, cells⟩ ∧ loc "row" = some (rowTV r)) (fun es _ => standsL hrl') ?step2 ⟨_, rfl, by walk_at "lk"⟩ hrl ?fin2
    case step2 =>
      intro o ho es hJ0 T' hT'
      refine hide fun hG => ?_
      obtain ⟨loc2, rfl, k1⟩ := hJ0
      refine hG ?_
      clear hG
      refine .name (sto (by kernel_rfl) ?_)
      have hol := (hR.row o ho).hi
      have hrl3 := (hR.row r hr).hi
      rw [← PP_eq] at hT'
      walk_at "go"
      refine opt_some (ne_row o r) ?_
      cases e : (o == r) with
      | true =>
        rw [e] at hT'
        walk_at "go"
        exact hT' _ ⟨_, rfl, by walk_at "lk"⟩
      | false =>
        rw [e] at hT'
        walk_at "go"
        walk_at "sl"
        refine callG (.fn rfl (.len (v := rowTV o) (xs := o.map .str) rfl (by rw [List.length_map]; walk_at "om"))) ?_
        walk_at "go"
        refine opt_some (a := rowTV (r.take o.length)) (by
          rw [sl_list (by rw [List.length_map]; walk_at "om") rfl rfl, pick_take, List.length_map]
          show _ = some (TV.list ((r.take o.length).map TV.str))
          rw [List.map_take]) ?_
        walk_at "go"
        refine opt_some (eq_row _ o) ?_
        cases e2 : (r.take o.length == o) with
        | true =>
          rw [e2] at hT'
          walk_at "go"
          exact hT' _ ⟨_, rfl, by walk_at "lk"⟩
        | false =>
          rw [e2] at hT'
          walk_at "go"
          exact hT' _ ⟨_, rfl, by walk_at "lk"⟩
    case fin2 =>
      intro es hJ0
      refine hide fun hG => ?_
      obtain ⟨loc2, rfl, k1⟩ := hJ0
      refine hG ?_
      clear hG
      rw [filter_fm (fun o => PP o r) rowTV]
      have hfl3 : ((rows.filter fun o => PP o r).map rowTV).length ≤ lim := by rw [List.length_map]; exact Nat.le_trans (List.length_filter_le ..) hrl
      refine ⟨hfl3, ?_⟩
      walk_at "go"
      refine callG (.fn rfl (.len (v := .list _) rfl hfl3)) ?_
      rw [List.length_map]
      exact hT _ ⟨_, rfl, h1⟩
  case fin1 =>
    intro es hJ0
    refine hide fun hG => ?_
    obtain ⟨loc, rfl, h1⟩ := hJ0
    refine hG ?_
    clear hG
    rw [fm_some]
    refine ⟨by rw [List.length_map]; exact hrl, ?_⟩
    have emp : rows.map (fun r => TV.int (dep rows r : Nat)) = (rows.map fun r => ((dep rows r : Nat) : Int)).map .int := by rw [List.map_map]; rfl
    obtain ⟨M, hM1, hM2, hM3⟩ : ∃ M : Nat, (rows.map fun r => ((dep rows r : Nat) : Int)).max? = some (M : Int) ∧ (∀ r ∈ rows, dep rows r ≤ M) ∧ ∃ r ∈ rows, dep rows r = M := by
      refine hide fun hG => ?_
      obtain ⟨r, k1, k2⟩ := longest (dep rows) rows hR.lo
      refine hG ?_
      clear hG
      refine ⟨dep rows r, ?_, k2, r, k1, rfl⟩
      rw [List.max?_eq_some_iff]
      exact ⟨List.mem_map.mpr ⟨r, k1, rfl⟩, fun b hb => by
        refine hide fun hG => ?_
        obtain ⟨z, hz, rfl⟩ := List.mem_map.mp hb
        refine hG ?_
        clear hG
        exact Int.ofNat_le.mpr (k2 z hz)⟩
    have hM7 : M ≤ 7 := by obtain ⟨r, _, e⟩ := hM3; rw [← e]; exact hdep r
    walk_at "go"
    refine .asg (fun _ => by rfl) (.lcomp ⟨rfl, by kernel_rfl, fun _ _ => by rfl, by kernel_rfl, by decide, ?_⟩)
    walk_at "go"
    refine callG (.fn rfl (.max (xs := rows.map fun r => TV.int (dep rows r : Nat)) (ns := rows.map fun r => ((dep rows r : Nat) : Int)) rfl (by rw [emp]; exact intList_map _) (by rw [List.length_map]; exact hrl) hM1)) ?_
    walk_at "go"
    refine ⟨_, .add, ?_⟩
    walk_at "go"
    refine callG (.type rfl .range1) ?_
    rw [show (M : Int) + 1 = ((M + 1 : Nat) : Int) from rfl]
    refine walkR (by walk_at "om") ?_
    refine gen_fmM (fun t => some (rowTV (lvl rows t))) (fun es => ∃ loc, es = ⟨loc, cells⟩ ∧ loc "rows" = some (.list (rows.map rowTV)) ∧ loc "depths" = some (.list (rows.map fun r => TV.int (dep rows r : Nat)))) (fun es _ => standsR (by walk_at "om")) ?step3 ⟨_, rfl, by walk_at "lk", by walk_at "lk"⟩ (by rw [List.length_range]; walk_at "om") ?fin3
    case step3 =>
      intro t ht es hJ0 T hT
      refine hide fun hG => ?_
      obtain ⟨loc3, rfl, k1, k2⟩ := hJ0
      refine hG ?_
      clear hG
      refine .name (sto (by kernel_rfl) ?_)
      walk_at "go"
      refine ⟨rfl, by kernel_rfl, fun _ _ => by rfl, by kernel_rfl, by decide, ?_⟩
      walk_at "go"
      refine callG (.fn rfl (.len (v := .list (rows.map rowTV)) rfl hrl')) ?_
      walk_at "go"
      refine callG (.type rfl .range1) ?_
      rw [List.length_map]
      refine walkR (by walk_at "om") ?_
      refine gen_fmM (fun k => (rows[k]?).bind fun r => if dep rows r == t then some (.str (path r)) else none) (fun es => ∃ loc, es = ⟨loc, cells⟩ ∧ loc "rows" = some (.list (rows.map rowTV)) ∧ loc "depths" = some (.list (rows.map fun r => TV.int (dep rows r : Nat))) ∧ loc "depth" = some (.int (t : Nat))) (fun es _ => standsR (by walk_at "om")) ?step4 ⟨_, rfl, by walk_at "lk", by walk_at "lk", by walk_at "lk"⟩ (by rw [List.length_range]; exact hrl) ?fin4
      case step4 =>
        intro k hk es hJ0 T' hT'
        refine hide fun hG => ?_
        obtain ⟨loc4, rfl, j1, j2, j3⟩ := hJ0
        refine hG ?_
        clear hG
        have hk := List.mem_range.mp hk
        have hr : rows[k]? = some rows[k] := List.getElem?_eq_getElem hk
        have hrow := hR.row _ (List.mem_of_getElem? hr)
        rw [hr, Option.bind_some] at hT'
        refine .name (sto (by kernel_rfl) ?_)
        walk_at "go"
        refine .item (fun _ _ => by rfl) ?_
        walk_at "go"
        refine opt_some (item_mp hr hrl) ?_
        walk_at "go"
        refine opt_some eq_int ?_
        have eb : (((dep rows rows[k] : Nat) : Int) == ((t : Nat) : Int)) = (dep rows rows[k] == t) := by
          rw [Bool.eq_iff_iff, beq_iff_eq, beq_iff_eq]; omega
        rw [eb]
        cases e : (dep rows rows[k] == t) with
        | false =>
          rw [e] at hT'
          walk_at "go"
          exact hT' _ ⟨_, rfl, by walk_at "lk", by walk_at "lk", by walk_at "lk"⟩
        | true =>
          rw [e] at hT'
          walk_at "go"
          refine .item (fun _ _ => by rfl) ?_
          walk_at "go"
          refine opt_some (item_mp hr hrl) ?_
          walk_at "go"
          refine callF (by kernel_rfl) (c_path (Fil.of hrow.nm (by have := hrow.hi; omega)) (fun e => by have := hrow.lo; rw [e] at this; cases this) ?_)
          exact hT' _ ⟨_, rfl, by walk_at "lk", by walk_at "lk", by walk_at "lk"⟩
      case fin4 =>
        intro es hJ0
        refine hide fun hG => ?_
        obtain ⟨loc4, rfl, j1, j2, j3⟩ := hJ0
        refine hG ?_
        clear hG
        rw [range_fm rows fun r => if dep rows r == t then some (TV.str (path r)) else none, filter_fm (fun r => dep rows r == t) fun r => TV.str (path r)]
        have e1 : (rows.filter fun r => dep rows r == t).map (fun r => TV.str (path r)) = ((rows.filter fun r => dep rows r == t).map path).map .str := by rw [List.map_map]; rfl
        have e2 : ((rows.filter fun r => dep rows r == t).map path).length ≤ 7 := by rw [List.length_map]; exact Nat.le_trans (List.length_filter_le ..) hl
        rw [e1]
        refine ⟨by rw [List.length_map]; walk_at "om", ?_⟩
        walk_at "go"
        refine callG (.fn rfl (.sorted (v := .list _) rfl (by rw [List.length_map]; omega) (strList_map _))) ?_
        exact hT _ ⟨_, rfl, k1, k2⟩
    case fin3 =>
      intro es hJ0
      refine hide fun hG => ?_
      obtain ⟨loc3, rfl, k1, k2⟩ := hJ0
      refine hG ?_
      clear hG
      rw [fm_some]
      refine ⟨by rw [List.length_map, List.length_range]; walk_at "om", ?_⟩
      have e5 : (List.range (M + 1)).map (fun t => rowTV (lvl rows t)) = ((List.range (M + 1)).map (lvl rows)).map rowTV := by rw [List.map_map]; rfl
      rw [e5]
      refine ⟨_, rfl, ?_⟩
      walk_at "go"
      refine .asg (fun _ => by rfl) (.comp ⟨rfl, by kernel_rfl, fun _ _ => by rfl, by kernel_rfl, by decide, ?_⟩)
      walk_at "go"
      refine walkL hfl2 ?_
      have hfin := h M hM2 hM3
      generalize (List.range (M + 1)).map (lvl rows) = rr at *
      refine gen_fmM (fun f => some (.str (bitS (rows.any fun r => r.isPrefixOf f)))) (fun es => ∃ loc, es = ⟨loc, cells ++ [.list (rr.map rowTV)]⟩ ∧ loc "rows" = some (.list (rows.map rowTV))) (fun es _ => standsL hfl2) ?step5 ⟨_, rfl, by walk_at "lk"⟩ hfl' ?fin5
      case step5 =>
        intro f hf es hJ0 T hT
        refine hide fun hG => ?_
        obtain ⟨loc5, rfl, m1⟩ := hJ0
        refine hG ?_
        clear hG
        have hf4 := hF.hi f hf
        refine .name (sto (by kernel_rfl) ?_)
        walk_at "go"
        refine ⟨rfl, by kernel_rfl, fun _ _ => by rfl, by kernel_rfl, by decide, ?_⟩
        walk_at "go"
        refine walkL hrl' ?_
        refine gen_fmM (fun r => if r.isPrefixOf f then some (rowTV r) else none) (fun es => ∃ loc, es = ⟨loc, cells ++ [.list (rr.map rowTV)]⟩ ∧ loc "one" = some (rowTV f)) (fun es _ => standsL hrl') ?step6 ⟨_, rfl, by walk_at "lk"⟩ hrl ?fin6
        case step6 =>
          intro r hr es hJ0 T' hT'
          refine hide fun hG => ?_
          obtain ⟨loc6, rfl, l1⟩ := hJ0
          refine hG ?_
          clear hG
          refine .name (sto (by kernel_rfl) ?_)
          have hrh := (hR.row r hr).hi
          rw [← take_pre] at hT'
          walk_at "go"
          walk_at "sl"
          refine callG (.fn rfl (.len (v := rowTV r) (xs := r.map .str) rfl (by rw [List.length_map]; walk_at "om"))) ?_
          walk_at "go"
          refine opt_some (a := rowTV (f.take r.length)) (by
            rw [sl_list (by rw [List.length_map]; walk_at "om") rfl rfl, pick_take, List.length_map]
            show _ = some (TV.list ((f.take r.length).map TV.str))
            rw [List.map_take]) ?_
          walk_at "go"
          refine opt_some (eq_row _ r) ?_
          cases e2 : (f.take r.length == r) with
          | true =>
            rw [e2] at hT'
            walk_at "go"
            exact hT' _ ⟨_, rfl, by walk_at "lk"⟩
          | false =>
            rw [e2] at hT'
            walk_at "go"
            exact hT' _ ⟨_, rfl, by walk_at "lk"⟩
        case fin6 =>
          intro es hJ0
          refine hide fun hG => ?_
          obtain ⟨loc6, rfl, l1⟩ := hJ0
          refine hG ?_
          clear hG
          rw [filter_fm (fun r => r.isPrefixOf f) rowTV]
          have hll : ((rows.filter fun r => r.isPrefixOf f).map rowTV).length ≤ lim := by rw [List.length_map]; exact Nat.le_trans (List.length_filter_le ..) hrl
          refine ⟨hll, ?_⟩
          walk_at "sl"
          refine opt_some (sl_list hll rfl rfl) ?_
          rw [show (some (1 : Int)) = some ((1 : Nat) : Int) from rfl, pick_take]
          walk_at "go"
          refine callG (.fn rfl (.len (v := .list _) rfl (Nat.le_trans (List.length_take_le ..) (by simp [lim])))) ?_
          rw [← List.map_take, List.length_map, take1]
          walk_at "go"
          refine callG (.type rfl (str_bit _)) ?_
          exact hT _ ⟨_, rfl, m1⟩
      case fin5 =>
        intro es hJ0
        refine hide fun hG => ?_
        obtain ⟨loc5, rfl, m1⟩ := hJ0
        refine hG ?_
        clear hG
        rw [fm_some]
        have e6 : files.map (fun f => TV.str (bitS (rows.any fun r => r.isPrefixOf f))) = (insideOf rows files).map .str := by unfold insideOf; rw [List.map_map]; rfl
        rw [e6]
        refine ⟨by rw [List.length_map]; unfold insideOf; rw [List.length_map]; exact hfl', ?_⟩
        walk_at "go"
        refine ⟨by simp [lim], ?_⟩
        rw [frzs_nr rfl]
        dsimp only
        walk_at "go"
        refine ⟨_, .mul rfl (by decide) (by decide) (by simp [lim]), ?_⟩
        walk_at "go"
        refine ⟨by simp [lim], ?_⟩
        have hf2 : ∀ v, frz (.list v) ((cells ++ [Cell.list (rr.map rowTV)]).set cells.length .dead) = (.list v, (cells ++ [Cell.list (rr.map rowTV)]).set cells.length .dead) := fun v => rfl
        have hf : ∀ v, frzs [.ref cells.length, .list v] (cells ++ [Cell.list (rr.map rowTV)]) = ([.list (rr.map rowTV), .list v], (cells ++ [Cell.list (rr.map rowTV)]).set cells.length .dead) := fun v => by
          show ((frz (.ref cells.length) (cells ++ [Cell.list (rr.map rowTV)])).1 :: _, _) = _
          rw [frz_L (at_last ..)]
          rfl
        dsimp only
        rw [hf]
        exact hfin _
end

section
open PySem PySem.W PyProof.Rows

/-- one clause of a comprehension, its state turn by turn -/
theorem gen_ixM {r : Rec} {cx : Cx} {α : Type} {h : α → TV} {ys : List α} {g : Comprehension} {elt : Expr} {k : WK} {src : TV} {Q : List TV → ES → Prop} (f : α → Option TV) (J : Nat → ES → Prop) (hst : ∀ i es, J i es → stands k es.cells src (ys.map h))
    (step : ∀ i y, ys[i]? = some y → ∀ es, J i es → ∀ T : Option TV → ES → Prop, (∀ es', J (i + 1) es' → T (f y) es') → BindT cx g.target (h y) es fun es => evIfs r cx g.ifs es fun b es => if b then r.e cx elt es fun v es => T (some v) es else T none es)
    {es : ES} (hI : J 0 es) (hl : ys.length ≤ lim) (q : ∀ es', J ys.length es' → Q (ys.filterMap f) es') : genLoop r cx g k src (ys.map h) (evGens r cx elt []) (ys.map h) es [] Q := by
  have key : ∀ (zs : List α) (i : Nat) (acc : List TV) (es : ES), ys.drop i = zs → i ≤ ys.length → acc.length + zs.length ≤ lim → J i es → (∀ es', J ys.length es' → Q (acc ++ zs.filterMap f) es') → genLoop r cx g k src (ys.map h) (evGens r cx elt []) (zs.map h) es acc Q := by
    intro zs
    induction zs with
    | nil =>
      intro i acc es hd hi _ hI hq
      refine ⟨hst i es hI, ?_⟩
      have := drop_nil hd hi
      subst this
      simpa using hq es hI
    | cons y zs ih =>
      intro i acc es hd hi hlen hI hq
      refine hide fun hG => ?_
      obtain ⟨hy, hd', hi'⟩ := drop_cons hd
      refine hG ?_
      clear hG
      refine ⟨hst i es hI, ?_⟩
      have ih' : ∀ es', J (i + 1) es' → (match f y with
          | some v => (acc ++ [v]).length ≤ lim ∧ genLoop r cx g k src (ys.map h) (evGens r cx elt []) (zs.map h) es' (acc ++ [v]) Q
          | none => genLoop r cx g k src (ys.map h) (evGens r cx elt []) (zs.map h) es' acc Q) := by
        intro es' hI'
        simp only [List.length_cons] at hlen
        cases e : f y with
        | none => exact ih (i + 1) acc es' hd' hi' (by walk_at "om") hI' fun es'' h'' => by have := hq es'' h''; rwa [List.filterMap_cons, e] at this
        | some v =>
          refine ⟨by simp; omega, ih (i + 1) (acc ++ [v]) es' hd' hi' (by simp; omega) hI' fun es'' h'' => ?_⟩
          have := hq es'' h''
          rw [List.filterMap_cons, e] at this
          simpa using this
      exact step i y hy es hI (fun o es' => match o with
        | some v => (acc ++ [v]).length ≤ lim ∧ genLoop r cx g k src (ys.map h) (evGens r cx elt []) (zs.map h) es' (acc ++ [v]) Q
        | none => genLoop r cx g k src (ys.map h) (evGens r cx elt []) (zs.map h) es' acc Q) ih'
  exact key ys 0 [] es rfl (Nat.zero_le _) (by simpa using hl) hI (by simpa using q)
theorem sl_rev {xs : List TV} {cells : List Cell} (h : xs.length ≤ lim) : sliceTV cells (.list xs) .none .none (.int (-1)) = some (.list xs.reverse) := by
  have hc : intPart TV.none = some none := rfl
  have hm : intPart (TV.int (-1)) = some (some (-1)) := rfl
  unfold sliceTV
  rw [hc, hm]
  show (if (some (-1 : Int)) = some 0 then none else if xs.length ≤ lim then some (TV.list (pick xs none none (some (-1)))) else none) = _
  rw [if_neg (by decide), if_pos h, pick_rev]

/-- all rows -/
noncomputable def all39 : List (List Str) := nm.flatMap fun a => [a] :: nm.flatMap fun b => [a, b] :: nm.map fun c => [a, b, c]
theorem Row.all {r : List Str} (h : Row r) : r ∈ all39 := by
  have hm := h.nm
  have lo := h.lo
  have hi := h.hi
  unfold all39
  rw [List.mem_flatMap]
  match r, hm, lo, hi with
  | [a], hm, _, _ => exact ⟨a, hm a (by simp), .head _⟩
  | [a, b], hm, _, _ => exact ⟨a, hm a (by simp), .tail _ (List.mem_flatMap.mpr ⟨b, hm b (by simp), .head _⟩)⟩
  | [a, b, c], hm, _, _ => exact ⟨a, hm a (by simp), .tail _ (List.mem_flatMap.mpr ⟨b, hm b (by simp), .tail _ (List.mem_map.mpr ⟨c, hm c (by simp), rfl⟩)⟩)⟩
noncomputable def pathChk (r : List Str) : Bool := match pathL r with
  | 47 :: c :: l => decide (c ≠ 47) && decide (l.length < 900) && decide (Txt.split (S (c :: l)) "/" = r) && decide (Txt.join "/" r = S (c :: l)) && (r.all fun x => decide (x.length ≠ 0) && decide (x ≠ ".") && decide (x ≠ "..") && decide (x.length ≤ 4096) && PyData.strOk x) &&
      decide (r.length ≤ 100) && decide ((r.map (·.length)).sum ≤ 4096) && PyData.strOk (S (c :: l))
  | _ => false
theorem all39_ok : all39.all pathChk = true := by decide +kernel
theorem Row.pathOk {r : List Str} (h : Row r) : PathOk (path r) := by
  have hc := List.all_eq_true.mp all39_ok r h.all
  unfold pathChk at hc
  refine ⟨?_⟩
  unfold path
  split at hc
  · rename_i c l e
    simp only [Bool.and_eq_true, decide_eq_true_eq, List.all_eq_true] at hc
    refine hide fun hG => ?_
    obtain ⟨⟨⟨⟨⟨⟨⟨h1, h2⟩, h3⟩, h4⟩, h5⟩, h6⟩, h7⟩, h8⟩ := hc
    refine hG ?_
    clear hG
    exact ⟨c, l, r, by rw [e], h1, h2, h3, h4, fun x hx => by
      refine hide fun hG => ?_
      obtain ⟨⟨⟨⟨a, b⟩, c⟩, d⟩, e⟩ := h5 x hx
      refine hG ?_
      clear hG
      exact ⟨a, b, c, d, e⟩, h6, h7, h8⟩
  · cases hc

theorem pp_f {r f : List Str} {x : Str} : PP r (f ++ [x]) = r.isPrefixOf f := by
  rw [Bool.eq_iff_iff, PP_iff, List.isPrefixOf_iff_prefix, List.length_append, List.length_singleton]
  constructor
  · rintro ⟨h1, h2⟩
    rw [List.prefix_iff_eq_take] at h1 ⊢
    rwa [List.take_append_of_le_length (by walk_at "om")] at h1
  · intro h
    exact ⟨h.trans (List.prefix_append ..), by have := h.length_le; omega⟩
/-- a file's path -/
noncomputable def fpath (f : List Str) : Str := path (f ++ [("f" : Str)])
theorem slash : ("/" : Str) = S [47] := by decide +kernel
theorem starts_f {rows files : List (List Str)} (hR : Rows rows) (hF : Files files) {r f : List Str} (hr : r ∈ rows) (hf : f ∈ files) : Txt.startswith (fpath f) (path r ++ "/") = r.isPrefixOf f := by
  unfold fpath path
  rw [slash, S_app, starts_S, path_preB (hR.row r hr).noS (Fil.withF (hF.nm f hf) (by have := hF.hi f hf; omega)).noS, pp_f]
theorem fold_all {rows files : List (List Str)} (hR : Rows rows) (hF : Files files) {f : List Str} (hf : f ∈ files) : inFold (rows.map path) (fpath f) = rows.any fun r => r.isPrefixOf f := by
  unfold inFold
  rw [List.any_map]
  have : ∀ l : List (List Str), (∀ r ∈ l, r ∈ rows) → l.any ((fun p => Txt.startswith (fpath f) (p ++ "/")) ∘ path) = l.any fun r => r.isPrefixOf f := by
    intro l hl
    induction l with
    | nil => rfl
    | cons a l ih =>
      rw [List.any_cons, List.any_cons, ih fun r hr => hl r (.tail _ hr)]
      congr 1
      exact starts_f hR hF (hl a (.head _)) hf
  exact this rows fun _ h => h
theorem fold_0 {rows files : List (List Str)} (hR : Rows rows) (hF : Files files) {f : List Str} (hf : f ∈ files) : inFold (lvl rows 0) (fpath f) = rows.any fun r => r.isPrefixOf f := by
  rw [Bool.eq_iff_iff]
  unfold inFold
  rw [List.any_eq_true, List.any_eq_true]
  constructor
  · intro hJ0
    refine hide fun hG => ?_
    obtain ⟨p, hp, h⟩ := hJ0
    refine hG ?_
    clear hG
    refine hide fun hG => ?_
    obtain ⟨r, hr, rfl⟩ := List.mem_map.mp (sortS_mem.mp hp)
    refine hG ?_
    clear hG
    have hr := (List.mem_filter.mp hr).1
    exact ⟨r, hr, by rw [← starts_f hR hF hr hf]; exact h⟩
  · intro hJ0
    refine hide fun hG => ?_
    obtain ⟨r, hr, h⟩ := hJ0
    refine hG ?_
    clear hG
    have key : ∀ n r, r ∈ rows → r.isPrefixOf f = true → dep rows r ≤ n → ∃ q ∈ rows, dep rows q = 0 ∧ q.isPrefixOf f = true := by
      intro n
      induction n with
      | zero => intro r hr h hn; exact ⟨r, hr, by walk_at "om", h⟩
      | succ n ih =>
        intro r hr h hn
        by_cases e : dep rows r = 0
        · exact ⟨r, hr, e, h⟩
        · refine hide fun hG => ?_
          obtain ⟨q, h1, h2, _⟩ := dep_below hR.nd (show 0 < dep rows r by walk_at "om")
          refine hG ?_
          clear hG
          have := dep_lt hR.nd h1 h2
          exact ih q h1 (List.isPrefixOf_iff_prefix.mpr ((PP_iff.mp h2).1.trans (List.isPrefixOf_iff_prefix.mp h))) (by walk_at "om")
    refine hide fun hG => ?_
    obtain ⟨q, h1, h2, h3⟩ := key _ r hr h (Nat.le_refl _)
    refine hG ?_
    clear hG
    exact ⟨path q, sortS_mem.mpr (List.mem_map.mpr ⟨q, List.mem_filter.mpr ⟨h1, by rw [beq_iff_eq]; exact h2⟩, rfl⟩), by rw [starts_f hR hF h1 hf]; exact h3⟩

/-- who stands before a folder -/
noncomputable def prOf (rows : List (List Str)) (v : Str) : List Str := (rows.filter fun r => (pathL r ++ [47]).isPrefixOf v.cps.toList).map path
theorem prOf_path {rows : List (List Str)} (hR : Rows rows) {r' : List Str} (h : r' ∈ rows) : prOf rows (path r') = (rows.filter fun r => PP r r').map path := by
  unfold prOf path
  congr 1
  refine List.filter_congr fun r hr => ?_
  rw [show (S (pathL r')).cps.toList = pathL r' by simp [S], path_preB (hR.row r hr).noS (hR.row r' h).noS]
theorem prOf_len (rows : List (List Str)) (v : Str) : (prOf rows v).length ≤ rows.length := by
  unfold prOf; rw [List.length_map]; exact List.length_filter_le ..
theorem sucOf_len {pr : Str → List Str} {b : Nat} (h : ∀ v, (pr v).length ≤ b) (order : List Str) (u : Str) : (sucOf pr order u).length ≤ b * order.length := by
  induction order with
  | nil => simp [sucOf]
  | cons a l ih =>
    have e : sucOf pr (a :: l) u = List.replicate ((pr a).count u) a ++ sucOf pr l u := rfl
    rw [e, List.length_append, List.length_replicate, List.length_cons, Nat.mul_succ]
    have := h a
    have : (pr a).count u ≤ (pr a).length := List.count_le_length
    omega
/-- a module's name -/
noncomputable def mdOf (fr : Str) (k : Nat) : Str := fr ++ Str.ofString (toString (k : Int))
noncomputable def mdChk (fr : Str) : Bool := (List.range 30).all fun i => decide (mdOf fr i ≠ "<string>") && (List.range 30).all fun j => decide (i = j ∨ mdOf fr i ≠ mdOf fr j)
theorem md_m : mdChk "m" = true := by decide +kernel
theorem md_n : mdChk "n" = true := by decide +kernel
noncomputable def igOf (fr : Str) (g : Nat → Bool) (k : Nat) : List (Str × TV) := ("<string>", .int 1) :: (List.range k).map fun j => (mdOf fr j, bit (g j))
theorem ig_none {fr : Str} (hc : mdChk fr = true) {g : Nat → Bool} {k : Nat} (hk : k < 30) : lookD (igOf fr g k) (mdOf fr k) = none := by
  have h := List.all_eq_true.mp hc k (List.mem_range.mpr hk)
  rw [Bool.and_eq_true, decide_eq_true_eq] at h
  refine lookD_none fun p hp => ?_
  rcases List.mem_cons.mp hp with rfl | hp
  · exact fun e => h.1 e.symm
  · refine hide fun hG => ?_
    obtain ⟨j, hj, rfl⟩ := List.mem_map.mp hp
    refine hG ?_
    clear hG
    have hj := List.mem_range.mp hj
    have := List.all_eq_true.mp h.2 j (List.mem_range.mpr (by walk_at "om"))
    rw [decide_eq_true_eq] at this
    rcases this with e | e
    · omega
    · exact fun h => e h.symm
theorem ig_put {fr : Str} (hc : mdChk fr = true) {g : Nat → Bool} {k : Nat} (hk : k < 30) : putD (igOf fr g k) (mdOf fr k) (bit (g k)) = igOf fr g (k + 1) := by
  have h := ig_none hc (g := g) hk
  rw [putD_new fun p hp e => ?_]
  · unfold igOf
    rw [List.range_succ, List.map_append]; rfl
  · have : ∃ v, lookD (igOf fr g k) (mdOf fr k) = some v := by
      obtain ⟨v, h1, _⟩ := lookD_key (kvs := igOf fr g k) (u := mdOf fr k) (by rw [← e]; exact List.mem_map_of_mem hp)
      exact ⟨v, h1⟩
    obtain ⟨v, hv⟩ := this
    rw [h] at hv; cases hv
theorem ig_some {fr : Str} (hc : mdChk fr = true) {g : Nat → Bool} {n k : Nat} (hn : n ≤ 30) (hk : k < n) : lookD (igOf fr g n) (mdOf fr k) = some (bit (g k)) := by
  obtain ⟨v, h1, h2⟩ := lookD_key (kvs := igOf fr g n) (u := mdOf fr k) (by
    unfold igOf
    rw [List.map_cons, List.map_map]
    exact .tail _ (List.mem_map.mpr ⟨k, List.mem_range.mpr hk, rfl⟩))
  rw [h1]
  have h := List.all_eq_true.mp hc k (List.mem_range.mpr (by walk_at "om"))
  rw [Bool.and_eq_true, decide_eq_true_eq] at h
  rcases List.mem_cons.mp h2 with e | h2
  · simp only [Prod.mk.injEq] at e; exact absurd e.1 h.1
  · refine hide fun hG => ?_
    obtain ⟨j, hj, e⟩ := List.mem_map.mp h2
    refine hG ?_
    clear hG
    simp only [Prod.mk.injEq] at e
    have := List.all_eq_true.mp h.2 j (List.mem_range.mpr (by have := List.mem_range.mp hj; omega))
    rw [decide_eq_true_eq] at this
    rcases this with e2 | e2
    · subst e2; rw [← e.2]
    · exact absurd e.1.symm e2

theorem num_ok : ∀ k : Nat, k < 30 → PyData.strOk (Str.ofString (toString (k : Int))) = true ∧ (Str.ofString (toString (k : Int))).length ≤ 2 := by decide +kernel
theorem Rd.setL {cells k d m g ps b ig} (h : Rd cells k d m g ps b ig) {i : Nat} {xs : List TV} {c : Cell} (e : cells[i]? = some (.list xs)) : Rd (cells.set i c) k d m g ps b ig :=
  ⟨set_off (fun x => by rw [x, h.ob] at e; cases e) h.ob, set_off (fun x => by rw [x, h.ns] at e; cases e) h.ns, set_off (fun x => by rw [x, h.mo] at e; cases e) h.mo, set_off (fun x => by rw [x, h.ig] at e; cases e) h.ig⟩
theorem Rd.keep {cells k d m g ps b ig} (h : Rd cells k d m g ps b ig) {C : List Cell} (hf : ∀ (i : Nat) (c : Cell), cells[i]? = some c → C[i]? = some c) : Rd C k d m g ps b ig := ⟨hf _ _ h.ob, hf _ _ h.ns, hf _ _ h.mo, hf _ _ h.ig⟩
/-- another reader's notes are no matter -/
theorem Rd.other {cells k d m g ps b ig k' d' m' g' ps' b' ig'} (h : Rd cells k d m g ps b ig) (h' : Rd cells k' d' m' g' ps' b' ig') (hm : m ≠ m') (hg : g ≠ g') {C : List Cell} (hf : ∀ i : Nat, i ≠ m' → i ≠ g' → C[i]? = cells[i]?) : Rd C k d m g ps b ig := by
  refine ⟨?_, ?_, ?_, ?_⟩
  · rw [hf k (fun e => by have := h.ob; rw [e, h'.mo] at this; cases this) (fun e => by have := h.ob; rw [e, h'.ig] at this; cases this)]; exact h.ob
  · rw [hf d (fun e => by have := h.ns; rw [e, h'.mo] at this; cases this) (fun e => by have := h.ns; rw [e, h'.ig] at this; cases this)]; exact h.ns
  · rw [hf m hm (fun e => by have := h.mo; rw [e, h'.ig] at this; cases this)]; exact h.mo
  · rw [hf g (fun e => by have := h.ig; rw [e, h'.mo] at this; cases this) hg]; exact h.ig
theorem Rd.list_off {cells k d m g ps b ig} (h : Rd cells k d m g ps b ig) {i : Nat} {xs : List TV} (e : cells[i]? = some (.list xs)) {C : List Cell} (hf : ∀ i : Nat, i ≠ m → i ≠ g → C[i]? = cells[i]?) : C[i]? = some (.list xs) := by
  rw [hf i (fun x => by rw [x, h.mo] at e; cases e) (fun x => by rw [x, h.ig] at e; cases e)]; exact e
theorem ig_len (fr : Str) (g : Nat → Bool) (k : Nat) : (igOf fr g k).length = k + 1 := by simp [igOf]
theorem lvl_ok {rows : List (List Str)} (hR : Rows rows) {t : Nat} : (lvl rows t).length ≤ 7 ∧ ∀ p ∈ lvl rows t, ∃ r ∈ rows, p = path r := by
  unfold lvl
  refine ⟨?_, fun p hp => ?_⟩
  · rw [sortS_len, List.length_map]; exact Nat.le_trans (List.length_filter_le ..) hR.hi
  · refine hide fun hG => ?_
    obtain ⟨r, hr, rfl⟩ := List.mem_map.mp (sortS_mem.mp hp)
    refine hG ?_
    clear hG
    exact ⟨r, (List.mem_filter.mp hr).1, rfl⟩
theorem path_len {rows : List (List Str)} (hR : Rows rows) {r : List Str} (hr : r ∈ rows) : (path r).length ≠ 0 ∧ (path r).length ≤ 9 := by
  have hrow := hR.row r hr
  have h1 := (Fil.of hrow.nm (by have := hrow.hi; omega)).len.1
  have h2 := hrow.hi
  have h3 := hrow.lo
  unfold path
  rw [S_len]
  refine ⟨?_, by walk_at "om"⟩
  cases r with
  | nil => cases h3
  | cons a r => rw [pathL_cons]; simp
theorem fpath_len {files : List (List Str)} (hF : Files files) {f : List Str} (hf : f ∈ files) : (fpath f).length ≤ lim := by
  have h2 := hF.hi f hf
  have h1 := (Fil.withF (hF.nm f hf) (by walk_at "om")).len.1
  unfold fpath path
  rw [S_len]
  rw [List.length_append, List.length_singleton] at h1
  walk_at "om"
/-- the reader's answers, file by file -/
noncomputable def ansOf (rows files : List (List Str)) (k : Nat) : Bool := match files[k]? with
  | some f => rows.any fun r => r.isPrefixOf f
  | none => false
end

section
open PySem PySem.W PyProof.Rows

/-- a folder's pattern, taken apart -/
noncomputable def partS (p : Str) : TV := .list ((((p.cps.toList ++ [47]).map trc) ++ (if true then [S [42]] else [])).map .str)
noncomputable def partTV (r : List Str) : TV := .list ((((pathL r ++ [47]).map trc) ++ (if true then [S [42]] else [])).map .str)
theorem partS_path (r : List Str) : partS (path r) = partTV r := by
  unfold partS partTV
  rw [show (path r).cps.toList = pathL r by simp [path, S]]
theorem okc_row {r : List Str} (h : Row r) : ∀ c ∈ pathL r ++ [47], okc c = true := by
  intro c hc
  rcases List.mem_append.mp hc with hc | hc
  · unfold pathL at hc
    refine hide fun hG => ?_
    obtain ⟨s, hs, hc⟩ := List.mem_flatMap.mp hc
    refine hG ?_
    clear hG
    rcases List.mem_cons.mp hc with rfl | hc
    · rfl
    · rcases nm_ab s (h.nm s hs) c hc with rfl | rfl <;> rfl
  · rw [List.mem_singleton.mp hc]; rfl
theorem nodup_rev {l : List Str} (h : l.Nodup) : l.reverse.Nodup := by
  rw [List.Nodup, List.pairwise_reverse]; exact h.imp fun h e => h e.symm
theorem path_nd {rows : List (List Str)} (hR : Rows rows) : (rows.map path).Nodup := by
  rw [List.Nodup, List.pairwise_map]
  exact hR.nd.imp_of_mem fun ha hb h e => h (path_inj (hR.row _ ha).noS (hR.row _ hb).noS (S_inj.mp e))
theorem c_told {n : Nat} {rows files : List (List Str)} {cells : List Cell} {Q : TV → List Cell → Prop} (hR : Rows rows) (hF : Files files)
    (h : ∀ out, (∀ M, (∀ r ∈ rows, dep rows r ≤ M) → (∃ r ∈ rows, dep rows r = M) → out = (List.range (M + 1)).map (lvl rows)) → ∀ cells', Q (dueTV out (insideOf rows files)) cells') :
    (ev G2 (n + 150)).c true (.fn "_law_told") [.list ((rows.map path).map .str), .list ((files.map fpath).map .str)] cells Q := by
  have hl := hR.hi
  have hfl := hF.len
  have hrl : rows.length ≤ lim := by walk_at "om"
  have hrl' : ((rows.map path).map TV.str).length ≤ lim := by rw [List.length_map, List.length_map]; exact hrl
  have hfl' : files.length ≤ lim := by walk_at "om"
  have hfl2 : ((files.map fpath).map TV.str).length ≤ lim := by rw [List.length_map, List.length_map]; exact hfl'
  have hpl : ∀ r ∈ rows, (pathL r).length ≤ 9 := fun r hr => by
    have h1 := (Fil.of (hR.row r hr).nm (by have := (hR.row r hr).hi; omega)).len.1
    have h2 := (hR.row r hr).hi
    omega
  refine cFn (f := f_told) (by kernel_rfl) (bindS (l := [("folders", .list ((rows.map path).map .str)), ("files", .list ((files.map fpath).map .str))]) (by kernel_rfl) (by kernel_rfl) (by kernel_rfl) ?_)
  walk_at "go"
  refine .asg (fun _ => by rfl) (.comp ⟨rfl, by kernel_rfl, fun _ _ => by rfl, by kernel_rfl, by decide, ?_⟩)
  walk_at "go"
  refine walkL hrl' ?_
  refine gen_fmM (fun p => some (partS p)) (fun es => ∃ loc junk, es = ⟨loc, cells ++ junk⟩) (fun es _ => standsL hrl') ?step1 ⟨_, [], by rw [List.append_nil]⟩ (by rw [List.length_map]; exact hrl) ?fin1
  case step1 =>
    intro y hy es hJ0 T hT
    refine hide fun hG => ?_
    obtain ⟨loc, junk, rfl⟩ := hJ0
    refine hG ?_
    clear hG
    refine hide fun hG => ?_
    obtain ⟨r, hr, rfl⟩ := List.mem_map.mp hy
    refine hG ?_
    clear hG
    rw [partS_path] at hT
    have hp := hpl r hr
    refine .name (sto (by kernel_rfl) ?_)
    walk_at "go"
    have e2 : path r ++ ("/*" : Str) = S ((pathL r ++ [47]) ++ if true then [42] else []) := by
      rw [show ("/*" : Str) = S [47, 42] by decide +kernel]
      unfold path
      rw [S_app]; simp
    refine ⟨_, .adds (by show (S (pathL r)).length + 2 ≤ lim; rw [S_len]; walk_at "om"), ?_⟩
    rw [e2]
    walk_at "go"
    refine callF (by kernel_rfl) (c_translate (okc_row (hR.row r hr)) (by simp) (by simp; omega) ?_)
    exact hT _ ⟨_, _, by rw [List.append_assoc]⟩
  case fin1 =>
    intro es hJ0
    refine hide fun hG => ?_
    obtain ⟨loc, junk, rfl⟩ := hJ0
    refine hG ?_
    clear hG
    have ep : (rows.map path).filterMap (fun p => some (partS p)) = rows.map partTV := by
      rw [fm_some, List.map_map]; exact List.map_congr_left fun r _ => partS_path r
    rw [ep]
    refine ⟨by rw [List.length_map]; exact hrl, ?_⟩
    walk_at "go"
    refine callF (by kernel_rfl) (c_sorter fun c1 k d m s1 => ?_)
    walk_at "go"
    refine .for_ rfl (fun _ _ => by rfl) ?_
    walk_at "go"
    walk_at "sl"
    refine ⟨_, rfl, ?_⟩
    refine opt_some (sl_rev hrl') ?_
    rw [← List.map_reverse]
    have hol : ((rows.map path).reverse.map TV.str).length ≤ lim := by simp; exact hrl
    refine walkL hol ?_
    refine for_inv (fun i es => ∃ loc C N, es = ⟨loc, C⟩ ∧ So C k d m .none 0 0 N (cntOf (prOf rows) ((rows.map path).reverse.take i)) (sucOf (prOf rows) ((rows.map path).reverse.take i)) false ∧ (∀ u ∈ (rows.map path).reverse.take i, u ∈ N.map (·.v)) ∧ (∀ u ∈ N.map (·.v), u ∈ rows.map path) ∧
        loc "folders" = some (.list ((rows.map path).map .str)) ∧ loc "files" = some (.list ((files.map fpath).map .str)) ∧ loc "parts" = some (.list (rows.map partTV)) ∧ loc "sorter" = some (.ref k)) (fun i es _ => standsL hol) ?hend ?step2
      ⟨_, _, _, rfl, s1, fun _ h => (nomatch h), fun _ h => (nomatch h), by walk_at "lk", by walk_at "lk", by walk_at "lk", by walk_at "lk"⟩
    case step2 =>
      intro i x es hx hJ0 T hT _ _ _
      refine hide fun hG => ?_
      obtain ⟨loc, C, N, rfl, s, a1, a2, b1, b2, b3, b4⟩ := hJ0
      refine hG ?_
      clear hG
      refine hide fun hG => ?_
      obtain ⟨v, hv, rfl⟩ := map_at hx
      refine hG ?_
      clear hG
      have hvr : v ∈ rows.map path := List.mem_reverse.mp (List.mem_of_getElem? hv)
      refine hide fun hG => ?_
      obtain ⟨r', hr', rfl⟩ := List.mem_map.mp hvr
      refine hG ?_
      clear hG
      refine .name (sto (by kernel_rfl) ?_)
      walk_at "go"
      refine opt_some (m_obj (f := "TS.add") s.ob s.ns (by kernel_rfl) (by kernel_rfl)) (mYes (by kernel_rfl) ⟨rfl, ?_⟩)
      walk_at "go"
      refine ⟨rfl, by kernel_rfl, fun _ _ => by rfl, by kernel_rfl, by decide, ?_⟩
      walk_at "go"
      refine callG (.fn rfl (.len (v := .list _) rfl hrl')) ?_
      walk_at "go"
      refine callG (.type rfl .range1) ?_
      rw [List.length_map, List.length_map]
      refine walkR (by walk_at "om") ?_
      refine gen_fmM (fun k => (rows[k]?).bind fun r => if PP r r' then some (.str (path r)) else none) (fun es => ∃ loc, es = ⟨loc, C⟩ ∧ loc "folders" = some (.list ((rows.map path).map .str)) ∧ loc "parts" = some (.list (rows.map partTV)) ∧ loc "one" = some (.str (path r'))) (fun es _ => standsR (by walk_at "om")) ?step3 ⟨_, rfl, by walk_at "lk", by walk_at "lk", by walk_at "lk"⟩ (by rw [List.length_range]; exact hrl) ?fin3
      case step3 =>
        intro k hk es hJ0 T' hT'
        refine hide fun hG => ?_
        obtain ⟨loc3, rfl, j1, j2, j3⟩ := hJ0
        refine hG ?_
        clear hG
        have hk := List.mem_range.mp hk
        have hr : rows[k]? = some rows[k] := List.getElem?_eq_getElem hk
        have hrm := List.mem_of_getElem? hr
        rw [hr, Option.bind_some] at hT'
        refine .name (sto (by kernel_rfl) ?_)
        walk_at "go"
        refine .item (fun _ _ => by rfl) ?_
        walk_at "go"
        refine opt_some (item_mp hr hrl) ?_
        walk_at "go"
        refine callF (by kernel_rfl) (c_takes (star := true) (okc_row (hR.row _ hrm)) (by have := hpl _ hrm; simp; omega) (by have := hpl _ hr'; omega) ?_)
        have et : takesB true (pathL rows[k] ++ [47]) (pathL r') = PP rows[k] r' := path_preB (hR.row _ hrm).noS (hR.row _ hr').noS
        rw [et]
        refine opt_some rfl ?_
        cases e : PP rows[k] r' with
        | false =>
          rw [e] at hT'
          walk_at "go"
          exact hT' _ ⟨_, rfl, by walk_at "lk", by walk_at "lk", by walk_at "lk"⟩
        | true =>
          rw [e] at hT'
          walk_at "go"
          refine .item (fun _ _ => by rfl) ?_
          walk_at "go"
          refine opt_some (item_mp (f := TV.str) (by rw [List.getElem?_map, hr]; rfl) (by rw [List.length_map]; exact hrl)) ?_
          exact hT' _ ⟨_, rfl, by walk_at "lk", by walk_at "lk", by walk_at "lk"⟩
      case fin3 =>
        intro es hJ0
        refine hide fun hG => ?_
        obtain ⟨loc3, rfl, j1, j2, j3⟩ := hJ0
        refine hG ?_
        clear hG
        rw [range_fm rows fun r => if PP r r' then some (TV.str (path r)) else none, filter_fm (fun r => PP r r') fun r => TV.str (path r)]
        have e1 : (rows.filter fun r => PP r r').map (fun r => TV.str (path r)) = (prOf rows (path r')).map .str := by rw [prOf_path hR hr', List.map_map]; rfl
        have hpr := prOf_len rows (path r')
        rw [e1]
        refine ⟨by rw [List.length_map]; walk_at "om", ?_⟩
        refine opt_some rfl ⟨by rw [List.length_map]; walk_at "om", ?_⟩
        walk_at "go"
        rw [List.append_nil]
        have hnd := path_nd hR
        have hNl : N.length ≤ 7 := by
          have := sub_len s.gr.nd (m := rows.map path) a2
          rw [List.length_map, List.length_map] at this; omega
        have hsl : ∀ u, (sucOf (prOf rows) ((rows.map path).reverse.take i) u).length ≤ 49 := fun u => by
          have h1 := sucOf_len (b := 7) (fun v => Nat.le_trans (prOf_len rows v) hl) ((rows.map path).reverse.take i) u
          have h2 : ((rows.map path).reverse.take i).length ≤ 7 := by rw [List.length_take, List.length_reverse, List.length_map]; omega
          omega
        have hvi : path r' ∉ (rows.map path).reverse.take i := fun hm => by
          obtain ⟨j, hj⟩ := List.mem_iff_getElem?.mp hm
          have hj' := at_lt hj
          rw [List.length_take] at hj'
          rw [List.getElem?_take, if_pos (by walk_at "om")] at hj
          have := (List.getElem?_inj (by walk_at "om") (nodup_rev hnd)).mp (hj.trans hv.symm)
          omega
        have hts := take_step hv
        refine callF (by kernel_rfl) (c_add s (by walk_at "om") (fun u => by have := hsl u; omega) fun C' N' s' hN' => ?_)
        walk_at "go"
        refine hT _ ⟨_, C', N', rfl, s'.cong (fun u => ?_) (fun u => ?_), ?_, ?_, by walk_at "lk", by walk_at "lk", by walk_at "lk", by walk_at "lk"⟩
        · rw [hts]
          unfold cntOf
          by_cases e : u = path r'
          · subst e
            rw [upF_hit, if_neg hvi, if_pos (by simp)]; simp
          · rw [upF_miss e]
            simp only [List.mem_append, List.mem_singleton, e, or_false]
        · rw [hts]
          unfold sucOf
          rw [List.flatMap_append]; simp
        · intro u hu
          rw [hts] at hu
          rw [hN', foldl_ins_mem]
          rcases List.mem_append.mp hu with hu | hu
          · exact .inl (a1 u hu)
          · rw [List.mem_singleton.mp hu]; exact .inr (.head _)
        · intro u hu
          rw [hN', foldl_ins_mem] at hu
          rcases hu with hu | hu
          · exact a2 u hu
          · rcases List.mem_cons.mp hu with rfl | hu
            · exact hvr
            · refine hide fun hG => ?_
              obtain ⟨q, hq, rfl⟩ := List.mem_map.mp hu
              refine hG ?_
              clear hG
              exact List.mem_map_of_mem (List.mem_filter.mp hq).1
    case hend =>
      intro es hJ0
      refine hide fun hG => ?_
      obtain ⟨loc, C, N, rfl, s, a1, a2, b1, b2, b3, b4⟩ := hJ0
      refine hG ?_
      clear hG
      have hnd := path_nd hR
      rw [List.length_map, List.take_length] at s a1
      have hNo : ∀ u, u ∈ N.map (·.v) ↔ u ∈ (rows.map path).reverse := fun u => ⟨fun h => List.mem_reverse.mpr (a2 u h), a1 u⟩
      have hNr : ∀ u, u ∈ N.map (·.v) ↔ u ∈ rows.map path := fun u => by rw [hNo, List.mem_reverse]
      have hon : (rows.map path).reverse.Nodup := nodup_rev hnd
      have hpo : ∀ v ∈ (rows.map path).reverse, ∀ u ∈ prOf rows v, u ∈ (rows.map path).reverse := fun v _ u hu => by
        refine hide fun hG => ?_
        obtain ⟨q, hq, rfl⟩ := List.mem_map.mp hu
        refine hG ?_
        clear hG
        exact List.mem_reverse.mpr (List.mem_map_of_mem (List.mem_filter.mp hq).1)
      have K0 := Kn.init hon s.gr.nd hNo hpo
      have hss : ∀ r ∈ rows, ∀ v, v ∈ sucOf (prOf rows) (rows.map path).reverse (path r) ↔ ∃ r' ∈ rows, v = path r' ∧ PP r r' = true := fun r hr v => by
        rw [sucOf_mem, List.mem_reverse]
        constructor
        · rintro ⟨h1, h2⟩
          refine hide fun hG => ?_
          obtain ⟨r', hr', rfl⟩ := List.mem_map.mp h1
          refine hG ?_
          clear hG
          rw [prOf_path hR hr'] at h2
          refine hide fun hG => ?_
          obtain ⟨q, hq, e⟩ := List.mem_map.mp h2
          refine hG ?_
          clear hG
          obtain ⟨hq1, hq2⟩ := List.mem_filter.mp hq
          have := path_inj (hR.row _ hq1).noS (hR.row _ hr).noS (S_inj.mp e)
          subst this
          exact ⟨r', hr', rfl, hq2⟩
        · intro hJ0
          refine hide fun hG => ?_
          obtain ⟨r', hr', rfl, h2⟩ := hJ0
          refine hG ?_
          clear hG
          refine ⟨List.mem_map_of_mem hr', ?_⟩
          rw [prOf_path hR hr']
          exact List.mem_map.mpr ⟨r, List.mem_filter.mpr ⟨hr, h2⟩, rfl⟩
      have hup : ∀ v, ∀ u ∈ sucOf (prOf rows) (rows.map path).reverse v, v.cps.toList.length < u.cps.toList.length := fun v u hu => by
        obtain ⟨h1, h2⟩ := sucOf_mem.mp hu
        refine hide fun hG => ?_
        obtain ⟨q, hq, rfl⟩ := List.mem_map.mp h2
        refine hG ?_
        clear hG
        have h3 := (List.isPrefixOf_iff_prefix.mp (List.mem_filter.mp hq).2).length_le
        rw [List.length_append, List.length_singleton] at h3
        rw [show (path q).cps.toList = pathL q by simp [path, S]]
        omega
      have hNl : N.length ≤ 7 := by
        have := sub_len s.gr.nd (m := rows.map path) a2
        rw [List.length_map, List.length_map] at this; omega
      have hsl : ∀ u, (sucOf (prOf rows) (rows.map path).reverse u).length ≤ 49 := fun u => by
        have h1 := sucOf_len (b := 7) (fun v => Nat.le_trans (prOf_len rows v) hl) (rows.map path).reverse u
        rw [List.length_reverse, List.length_map] at h1
        omega
      have hcls : ∀ x ∈ N, ∀ u ∈ sucOf (prOf rows) (rows.map path).reverse x.v, u ∈ N.map (·.v) := fun x hx u hu => (hNo u).mpr (sucOf_mem.mp hu).1
      have hlv : ∀ out, Rnds (sucOf (prOf rows) (rows.map path).reverse) (N.map (·.v)) out → ∀ M, (∀ r ∈ rows, dep rows r ≤ M) → (∃ r ∈ rows, dep rows r = M) → out = (List.range (M + 1)).map (lvl rows) := fun out hr M h1 h2 => by
        have := levels hR hss h1 h2 hr 0 (Nat.zero_le _) s.gr.nd fun v => by
          rw [hNr, List.mem_map]
          constructor
          · rintro ⟨r, hr, rfl⟩; exact ⟨r, hr, Nat.zero_le _, rfl⟩
          · rintro ⟨r, hr, _, rfl⟩; exact ⟨r, hr, rfl⟩
        rwa [List.drop_zero] at this
      generalize hsg : sucOf (prOf rows) (rows.map path).reverse = suc at *
      generalize cntOf (prOf rows) (rows.map path).reverse = cnt at *
      clear hss hpo hsg
      walk_at "go"
      refine opt_some (m_obj (f := "TS.prepare") s.ob s.ns (by kernel_rfl) (by kernel_rfl)) (mNo (by kernel_rfl) (by decide) (by kernel_rfl) ?_)
      walk_at "go"
      refine callF (by kernel_rfl) (c_prep s (by walk_at "om") (fun u => by have := hsl u; omega) hcls (fun u hw => Nat.lt_irrefl _ (hw.up (ρ := fun v => v.cps.toList.length) hup)) fun C r s' hr hrb => ?_)
      walk_at "go"
      refine .asg (fun _ => by rfl) (newList ?_)
      walk_at "go"
      have hrr : d < C.length ∧ r < C.length ∧ ∀ x ∈ N, x.a < C.length ∧ x.b < C.length := ⟨at_lt s'.ns, at_lt hr, fun x hx => ⟨at_lt (s'.gr.inf x hx), at_lt (s'.gr.suc x hx)⟩⟩
      have hmx : 0 < rows.length := by have := hR.lo; cases rows with | nil => exact absurd rfl this | cons => simp
      refine .while_ ⟨fun K es => ∃ loc C' p c R left acc, es = ⟨loc, C'⟩ ∧ So C' k d m (.ref r) p p N c suc true ∧ C'[r]? = some (.list ((R : List Str).map .str)) ∧ C'[C.length]? = some (.list ((acc : List (List Str)).map rowTV)) ∧ Kn (N.map (·.v)) suc left c R ∧ left.length = K ∧ acc.length + left.length ≤ 7 ∧
        (∀ out, Rnds suc left out → Rnds suc (N.map (·.v)) (acc ++ out)) ∧ loc "folders" = some (.list ((rows.map path).map .str)) ∧ loc "files" = some (.list ((files.map fpath).map .str)) ∧ loc "parts" = some (.list (rows.map partTV)) ∧ loc "sorter" = some (.ref k) ∧ loc "rounds" = some (.ref C.length),
        (N.map (·.v)).length, ⟨_, _, 0, cnt, rdy0 N cnt, N.map (·.v), [], rfl, s'.app _, at_app hr, at_last .., K0, rfl, by simp; exact hNl, fun out h => h, by walk_at "lk", by walk_at "lk", by walk_at "lk", by walk_at "lk", by walk_at "lk"⟩, ?_⟩
      clear b1 b2 b3 b4 a1 a2 s hr K0 s'
      intro K es hJ0
      refine hide fun hG => ?_
      obtain ⟨loc, C', p, c, R, left, acc, rfl, s, hr, hacc, kn, hK, hal, hout, b1, b2, b3, b4, b5⟩ := hJ0
      refine hG ?_
      clear hG
      have hRN : ∀ v ∈ R, v ∈ N.map (·.v) := fun v hv => kn.sub v ((kn.rm v).mp hv).1
      have hRl : R.length ≤ 7 := by
        have := sub_len kn.rnd hRN
        rw [List.length_map] at this; omega
      unfold whileTurn
      walk_at "go"
      refine opt_some (m_obj (f := "TS.is_active") s.ob s.ns (by kernel_rfl) (by kernel_rfl)) (mNo (by kernel_rfl) (by decide) (by kernel_rfl) ?_)
      walk_at "go"
      refine callF (by kernel_rfl) (c_active s hr (by walk_at "om") ?_)
      refine opt_some rfl ?_
      by_cases hR0 : R = []
      · subst hR0
        walk_at "go"
        refine ⟨trivial, ?_⟩
        have hfin := hlv acc (by have := hout [] (.stop (kn.nil.mpr rfl)); rwa [List.append_nil] at this)
        have hlen : acc.length ≤ 7 := by walk_at "om"
        clear hout kn hr s hal hRN hRl b4 hlv
        walk_at "go"
        refine .asg (fun _ => by rfl) (newList ?_)
        walk_at "go"
        refine .for_ rfl (fun _ _ => by rfl) ?_
        walk_at "go"
        obtain ⟨M, hM, hM'⟩ : ∃ M, (∀ r ∈ rows, dep rows r ≤ M) ∧ ∃ r ∈ rows, dep rows r = M := by
          refine hide fun hG => ?_
          obtain ⟨z, k1, k2⟩ := longest (dep rows) rows hR.lo
          refine hG ?_
          clear hG
          exact ⟨_, k2, z, k1, rfl⟩
        have hac0 : acc[0]? = some (lvl rows 0) := by rw [hfin M hM hM']; simp
        have ht0 := at_last C' (Cell.list [])
        have hacT : (C' ++ [Cell.list []])[C.length]? = some (.list (acc.map rowTV)) := at_app hacc
        have htc : C'.length ≠ C.length := by have := at_lt hacc; omega
        generalize C' ++ [Cell.list []] = C5 at *
        obtain ⟨hv1, hv2⟩ := lvl_ok hR (t := 0)
        have hall : ∀ p ∈ rows.map path, ∃ r ∈ rows, p = path r := fun p hp => by obtain ⟨r, hr, e⟩ := List.mem_map.mp hp; exact ⟨r, hr, e.symm⟩
        have hpOk : ∀ ps : List Str, (∀ p ∈ ps, ∃ r ∈ rows, p = path r) → ∀ p ∈ ps, PathOk p := fun ps h p hp => by obtain ⟨r, hr, rfl⟩ := h p hp; exact (hR.row r hr).pathOk
        have hpLn : ∀ ps : List Str, (∀ p ∈ ps, ∃ r ∈ rows, p = path r) → ∀ p ∈ ps, p.length ≠ 0 ∧ p.length < lim := fun ps h p hp => by
          refine hide fun hG => ?_
          obtain ⟨r, hr, rfl⟩ := h p hp
          refine hG ?_
          clear hG
          have := path_len hR hr
          exact ⟨this.1, by walk_at "om"⟩
        have hv0 : lvl rows 0 ≠ [] := fun e => by
          refine hide fun hG => ?_
          obtain ⟨z, k1, k2⟩ := hM'
          refine hG ?_
          clear hG
          refine hide fun hG => ?_
          obtain ⟨y, y1, y2⟩ := dep_at hR.nd M k1 (by walk_at "om") (show 0 ≤ dep rows z by walk_at "om")
          refine hG ?_
          clear hG
          have : path y ∈ lvl rows 0 := sortS_mem.mpr (List.mem_map.mpr ⟨y, List.mem_filter.mpr ⟨y1, by rw [beq_iff_eq]; exact y2⟩, rfl⟩)
          rw [e] at this; cases this
        have hrn0 : rows.map path ≠ [] := fun e => hR.lo (List.map_eq_nil_iff.mp e)
        refine ⟨by simp, ?_⟩
        rw [frzs_nr rfl]
        dsimp only
        walk_at "go"
        refine .item (fun _ _ => by rfl) ?_
        walk_at "go"
        refine opt_some (a := rowTV (lvl rows 0)) (item_cell (i := 0) hacT (by rw [List.getElem?_map, hac0]; rfl) (by rw [List.length_map]; walk_at "om")) ?_
        walk_at "go"
        refine callF (by kernel_rfl) (c_ignore (ps := lvl rows 0) (hpOk _ hv2) (by walk_at "om") hv0 fun C6 k1 d1 m1 g1 R1 hf6 hm6 hg6 => ?_)
        walk_at "go"
        refine ⟨by simp [lim], ?_⟩
        walk_at "go"
        refine ⟨by simp, ?_⟩
        rw [frzs_nr rfl]
        dsimp only
        walk_at "go"
        refine callF (by kernel_rfl) (c_ignore (ps := rows.map path) (hpOk _ hall) (by rw [List.length_map]; exact hrl) hrn0 fun C7 k2 d2 m2 g2 R2 hf7 hm7 hg7 => ?_)
        walk_at "go"
        refine ⟨by simp [lim], ?_⟩
        walk_at "go"
        refine ⟨by simp [lim], ?_⟩
        rw [frzs_nr rfl]
        dsimp only
        have R1' := R1.keep hf7
        have hm12 : m1 ≠ m2 := by have := at_lt R1.mo; omega
        have hg12 : g1 ≠ g2 := by have := at_lt R1.ig; omega
        have hac7 := hf7 _ _ (hf6 _ _ hacT)
        have ht7 := hf7 _ _ (hf6 _ _ ht0)
        clear R1 hf6 hf7 hm6 hg6 hm7 hg7 ht0 hacT
        refine walkL (by simp [lim]) ?_
        refine for_inv (fun i es => ∃ loc C8, es = ⟨loc, C8⟩ ∧ C8[C.length]? = some (.list (acc.map rowTV)) ∧ C8[C'.length]? = some (.list ((List.replicate (2 * i) (insideOf rows files)).map rowTV)) ∧
            (i = 0 → Rd C8 k1 d1 m1 g1 (lvl rows 0) false [("<string>", .int 1)]) ∧ (i ≤ 1 → Rd C8 k2 d2 m2 g2 (rows.map path) false [("<string>", .int 1)]) ∧
            loc "files" = some (.list ((files.map fpath).map .str)) ∧ loc "parts" = some (.list (rows.map partTV)) ∧ loc "rounds" = some (.ref C.length) ∧ loc "told" = some (.ref C'.length)) (fun i es _ => standsL (by simp [lim])) ?hend8 ?step8
          ⟨_, C7, rfl, hac7, ht7, fun _ => R1', fun _ => R2, by walk_at "lk", by walk_at "lk", by walk_at "lk", by walk_at "lk"⟩
        case step8 =>
          intro i x es hx hJ0 T hT _ _ _
          refine hide fun hG => ?_
          obtain ⟨loc, C8, rfl, ha8, ht8, hr1, hr2, b2, b3, b5, b6⟩ := hJ0
          refine hG ?_
          clear hG
          obtain ⟨kk, dd, mm, gg, ps, fr, rfl, hRd, hchk, hlf, hps, hps1, hps2, hkeep, hi2⟩ : ∃ kk dd mm gg ps fr, x = .tup [.ref kk, .str fr] ∧ Rd C8 kk dd mm gg ps false [("<string>", .int 1)] ∧ mdChk fr = true ∧ fr.length = 1 ∧ (∀ f ∈ files, inFold ps (fpath f) = rows.any fun r => r.isPrefixOf f) ∧
              (∀ p ∈ ps, p.length ≠ 0 ∧ p.length < lim) ∧ ps.length ≤ lim ∧ (∀ C9 : List Cell, (∀ j : Nat, j ≠ mm → j ≠ gg → C9[j]? = C8[j]?) → (i + 1 ≤ 1 → Rd C9 k2 d2 m2 g2 (rows.map path) false [("<string>", .int 1)])) ∧ i ≤ 1 := by
            match i, hx with
            | 0, hx =>
              simp only [List.getElem?_cons_zero, Option.some.injEq] at hx
              subst hx
              exact ⟨k1, d1, m1, g1, lvl rows 0, "m", rfl, hr1 rfl, md_m, rfl, fun f hf => fold_0 hR hF hf, hpLn _ hv2, by walk_at "om", fun C9 h9 _ => (hr2 (by walk_at "om")).other (hr1 rfl) hm12.symm hg12.symm h9, by walk_at "om"⟩
            | 1, hx =>
              simp only [List.getElem?_cons_succ, List.getElem?_cons_zero, Option.some.injEq] at hx
              subst hx
              exact ⟨k2, d2, m2, g2, rows.map path, "n", rfl, hr2 (by walk_at "om"), md_n, rfl, fun f hf => fold_all hR hF hf, hpLn _ hall, by rw [List.length_map]; exact hrl, fun C9 h9 h => absurd h (by walk_at "om"), by walk_at "om"⟩
            | j + 2, hx => simp at hx
          refine .tuple rfl ?_
          walk_at "go"
          refine .asg (fun _ => by rfl) (.comp ⟨rfl, by kernel_rfl, fun _ _ => by rfl, by kernel_rfl, by decide, ?_⟩)
          walk_at "go"
          refine callG (.fn rfl (.len (v := .list _) rfl hfl2)) ?_
          walk_at "go"
          refine callG (.type rfl .range1) ?_
          rw [List.length_map, List.length_map]
          refine walkR (by walk_at "om") ?_
          have hrng : ∀ {k y : Nat}, (List.range files.length)[k]? = some y → y = k ∧ k < files.length := fun {k y} h => by
            have := at_lt h
            rw [List.length_range] at this
            rw [List.getElem?_range this] at h
            exact ⟨(Option.some.inj h).symm, this⟩
          refine gen_ixM (fun k => (files[k]?).bind fun f => some (.str (bitS (rows.any fun r => r.isPrefixOf f)))) (fun k es => ∃ loc C9 b, es = ⟨loc, C9⟩ ∧ Rd C9 kk dd mm gg ps b (igOf fr (ansOf rows files) k) ∧ (∀ j : Nat, j ≠ mm → j ≠ gg → C9[j]? = C8[j]?) ∧
              loc "files" = some (.list ((files.map fpath).map .str)) ∧ loc "reader" = some (.ref kk) ∧ loc "front" = some (.str fr)) (fun i es _ => standsR (by walk_at "om")) ?step9 ⟨_, C8, false, rfl, hRd, fun _ _ _ => rfl, by walk_at "lk", by walk_at "lk", by walk_at "lk"⟩ (by rw [List.length_range]; exact hfl') ?fin9
          case step9 =>
            intro k y hy es hJ0 T' hT'
            refine hide fun hG => ?_
            obtain ⟨loc9, C9, b, rfl, R9, hf9, j1, j2, j3⟩ := hJ0
            refine hG ?_
            clear hG
            obtain ⟨rfl, hk⟩ := hrng hy
            have hfk : files[y]? = some files[y] := List.getElem?_eq_getElem hk
            have hfm := List.mem_of_getElem? hfk
            obtain ⟨n1, n2⟩ := num_ok y (by walk_at "om")
            refine .name (sto (by kernel_rfl) ?_)
            walk_at "go"
            refine opt_some (m_obj (f := "_Ignore.names") R9.ob R9.ns (by kernel_rfl) (by kernel_rfl)) (mNo (by kernel_rfl) (by decide) (by kernel_rfl) ?_)
            walk_at "go"
            refine .item (fun _ _ => by rfl) ?_
            walk_at "go"
            refine opt_some (item_mp (f := TV.str) (x := fpath files[y]) (by rw [List.getElem?_map, hfk]; rfl) (by rw [List.length_map]; exact hfl')) ?_
            walk_at "go"
            refine callG (.type rfl (.strI (by walk_at "om") n1)) ?_
            refine ⟨_, .adds (by walk_at "om"), ?_⟩
            walk_at "go"
            have ha : ansOf rows files y = rows.any fun r => r.isPrefixOf files[y] := by unfold ansOf; rw [hfk]
            refine callF (by kernel_rfl) (c_names_new R9 (ig_none hchk (by walk_at "om")) (fpath_len hF hfm) hps1 hps2 (by rw [ig_len]; walk_at "om") fun C10 R10 hf10 => ?_)
            rw [hps _ hfm] at R10 ⊢
            rw [← ha] at R10
            have hput := ig_put (fr := fr) hchk (g := ansOf rows files) (k := y) (by walk_at "om")
            walk_at "go"
            refine callG (.type rfl (str_bit _)) ?_
            rw [hfk, Option.bind_some] at hT'
            refine hT' _ ⟨_, C10, true, rfl, ?_, fun j h1 h2 => by rw [hf10 j h1 h2]; exact hf9 j h1 h2, by walk_at "lk", by walk_at "lk", by walk_at "lk"⟩
            rw [← hput]; exact R10
          case fin9 =>
            intro es hJ0
            refine hide fun hG => ?_
            obtain ⟨loc9, C9, b, rfl, R9, hf9, j1, j2, j3⟩ := hJ0
            refine hG ?_
            clear hG
            rw [List.length_range] at R9
            have e9 : (List.range files.length).filterMap (fun k => (files[k]?).bind fun f => some (TV.str (bitS (rows.any fun r => r.isPrefixOf f)))) = (insideOf rows files).map .str := by
              rw [range_fm files fun f => some (TV.str (bitS (rows.any fun r => r.isPrefixOf f))), fm_some]
              unfold insideOf; rw [List.map_map]; rfl
            have hil : (insideOf rows files).length = files.length := by unfold insideOf; rw [List.length_map]
            rw [e9]
            refine ⟨by rw [List.length_map, hil]; exact hfl', ?_⟩
            have ht9 := hRd.list_off ht8 hf9
            have ha9 := hRd.list_off ha8 hf9
            walk_at "go"
            refine opt_some (m_append ht9) (mNo (by kernel_rfl) (by decide) (by kernel_rfl) ?_)
            walk_at "go"
            refine callG (.meth (.append ht9 (by simp [lim]; omega))) ?_
            have R10 := R9.setL (c := .list ((List.replicate (2 * i) (insideOf rows files)).map rowTV ++ [rowTV (insideOf rows files)])) ht9
            have ht10 := set_hit (x := Cell.list ((List.replicate (2 * i) (insideOf rows files)).map rowTV ++ [rowTV (insideOf rows files)])) ht9
            have ha10 := set_off (x := Cell.list ((List.replicate (2 * i) (insideOf rows files)).map rowTV ++ [rowTV (insideOf rows files)])) htc ha9
            have hk10 : i + 1 ≤ 1 → Rd (C9.set C'.length (.list ((List.replicate (2 * i) (insideOf rows files)).map rowTV ++ [rowTV (insideOf rows files)]))) k2 d2 m2 g2 (rows.map path) false [("<string>", .int 1)] := fun h => (hkeep C9 hf9 h).setL ht9
            walk_at "go"
            refine opt_some (m_append ht10) (mNo (by kernel_rfl) (by decide) (by kernel_rfl) ?_)
            walk_at "go"
            refine ⟨rfl, by kernel_rfl, fun _ _ => by rfl, by kernel_rfl, by decide, ?_⟩
            walk_at "go"
            refine callG (.fn rfl (.len (v := .list _) rfl hfl2)) ?_
            walk_at "go"
            refine callG (.type rfl .range1) ?_
            rw [List.length_map, List.length_map]
            refine walkR (by walk_at "om") ?_
            dsimp only at ht10 ha10 R10 hk10 ⊢
            generalize hC10 : C9.set C'.length (.list ((List.replicate (2 * i) (insideOf rows files)).map rowTV ++ [rowTV (insideOf rows files)])) = C10 at *
            refine gen_fmM (fun k => (files[k]?).bind fun f => some (.str (bitS (rows.any fun r => r.isPrefixOf f)))) (fun es => ∃ loc, es = ⟨loc, C10⟩ ∧
              loc "first" = some (.list ((insideOf rows files).map .str)) ∧ loc "reader" = some (.ref kk) ∧ loc "front" = some (.str fr)) (fun es _ => standsR (by walk_at "om")) ?step10 ⟨_, rfl, by walk_at "lk", by walk_at "lk", by walk_at "lk"⟩ (by rw [List.length_range]; exact hfl') ?fin10
            case step10 =>
              intro y hy es hJ0 T' hT'
              refine hide fun hG => ?_
              obtain ⟨loc10, rfl, q1, q2, q3⟩ := hJ0
              refine hG ?_
              clear hG
              have hk := List.mem_range.mp hy
              have hfk : files[y]? = some files[y] := List.getElem?_eq_getElem hk
              have hfm := List.mem_of_getElem? hfk
              obtain ⟨n1, n2⟩ := num_ok y (by walk_at "om")
              have ha : ansOf rows files y = rows.any fun r => r.isPrefixOf files[y] := by unfold ansOf; rw [hfk]
              rw [hfk, Option.bind_some, ← ha] at hT'
              refine .name (sto (by kernel_rfl) ?_)
              walk_at "go"
              refine opt_some (m_obj (f := "_Ignore.names") R10.ob R10.ns (by kernel_rfl) (by kernel_rfl)) (mNo (by kernel_rfl) (by decide) (by kernel_rfl) ?_)
              walk_at "go"
              refine ⟨by simp [lim], ?_⟩
              rw [frzs_nr rfl]
              dsimp only
              refine .item (fun _ _ => by rfl) ?_
              walk_at "go"
              refine .item (fun _ _ => by rfl) ?_
              walk_at "go"
              refine opt_some (item_mp (f := TV.str) (x := bitS (ansOf rows files y)) (by unfold insideOf; rw [List.getElem?_map, hfk, ha]; rfl) (by rw [hil]; exact hfl')) ?_
              walk_at "go"
              refine opt_some eq_str ?_
              obtain ⟨tv, htv⟩ : ∃ tv, itemTV C10 (.list [.none, .str "/c/f"]) (.bool (bitS (ansOf rows files y) == "1")) = some tv := by
                cases (bitS (ansOf rows files y) == "1")
                · exact ⟨_, rfl⟩
                · exact ⟨_, rfl⟩
              refine opt_some htv ?_
              walk_at "go"
              refine callG (.type rfl (.strI (by walk_at "om") n1)) ?_
              refine ⟨_, .adds (by walk_at "om"), ?_⟩
              walk_at "go"
              refine callF (by kernel_rfl) (c_names_old R10 (ig_some hchk (by walk_at "om") hk) rfl ?_)
              walk_at "go"
              refine callG (.type rfl (str_bit _)) ?_
              exact hT' _ ⟨_, rfl, by walk_at "lk", by walk_at "lk", by walk_at "lk"⟩
            case fin10 =>
              intro es hJ0
              refine hide fun hG => ?_
              obtain ⟨loc10, rfl, q1, q2, q3⟩ := hJ0
              refine hG ?_
              clear hG
              rw [e9]
              refine ⟨by rw [List.length_map, hil]; exact hfl', ?_⟩
              walk_at "go"
              refine callG (.meth (.append ht10 (by simp [lim]; omega))) ?_
              walk_at "go"
              have e11 : (List.replicate (2 * i) (insideOf rows files)).map rowTV ++ [rowTV (insideOf rows files)] ++ [rowTV (insideOf rows files)] = (List.replicate (2 * (i + 1)) (insideOf rows files)).map rowTV := by
                rw [show 2 * (i + 1) = 2 * i + 1 + 1 by walk_at "om", List.replicate_succ', List.replicate_succ', List.map_append, List.map_append]; rfl
              rw [e11]
              exact hT _ ⟨_, _, rfl, set_off htc ha10, set_hit ht10, fun h => absurd h (by walk_at "om"), fun h => (hk10 h).setL ht10, by walk_at "lk", by walk_at "lk", by walk_at "lk", by walk_at "lk"⟩
        case hend8 =>
          intro es hJ0
          refine hide fun hG => ?_
          obtain ⟨loc, C8, rfl, ha8, ht8, -, -, b2, b3, b5, b6⟩ := hJ0
          refine hG ?_
          clear hG
          walk_at "go"
          replace ht8 : C8[C'.length]? = some (.list ((List.replicate 4 (insideOf rows files)).map rowTV)) := ht8
          refine opt_some (m_append ht8) (mNo (by kernel_rfl) (by decide) (by kernel_rfl) ?_)
          walk_at "go"
          refine ⟨rfl, by kernel_rfl, fun _ _ => by rfl, by kernel_rfl, by decide, ?_⟩
          walk_at "go"
          refine walkL hfl2 ?_
          have em2 : (files.map fpath).map TV.str = files.map fun f => TV.str (fpath f) := by rw [List.map_map]; rfl
          rw [em2] at hfl2 ⊢
          have hpt : (rows.map partTV).length ≤ lim := by rw [List.length_map]; exact hrl
          refine gen_fmM (fun f => some (.str (bitS (rows.any fun r => r.isPrefixOf f)))) (fun es => ∃ loc, es = ⟨loc, C8⟩ ∧ loc "parts" = some (.list (rows.map partTV))) (fun es _ => standsL hfl2) ?step11 ⟨_, rfl, by walk_at "lk"⟩ hfl' ?fin11
          case step11 =>
            intro f hf es hJ0 T' hT'
            refine hide fun hG => ?_
            obtain ⟨loc11, rfl, q1⟩ := hJ0
            refine hG ?_
            clear hG
            refine .name (sto (by kernel_rfl) ?_)
            walk_at "go"
            refine ⟨rfl, by kernel_rfl, fun _ _ => by rfl, by kernel_rfl, by decide, ?_⟩
            walk_at "go"
            refine walkL hpt ?_
            have hff := Fil.withF (hF.nm f hf) (by have := hF.hi f hf; omega)
            refine gen_fmM (fun r => if r.isPrefixOf f then some (partTV r) else none) (fun es => ∃ loc, es = ⟨loc, C8⟩ ∧ loc "one" = some (.str (fpath f))) (fun es _ => standsL hpt) ?step12 ⟨_, rfl, by walk_at "lk"⟩ hrl ?fin12
            case step12 =>
              intro r hr es hJ0 T2 hT2
              refine hide fun hG => ?_
              obtain ⟨loc12, rfl, u1⟩ := hJ0
              refine hG ?_
              clear hG
              refine .name (sto (by kernel_rfl) ?_)
              walk_at "go"
              have hpf : (pathL (f ++ [("f" : Str)])).length < 900 := by
                have h1 := hff.len.1
                have h2 := hff.hi
                omega
              refine callF (by kernel_rfl) (c_takes (star := true) (okc_row (hR.row r hr)) (by have := hpl r hr; simp; omega) hpf ?_)
              have et : takesB true (pathL r ++ [47]) (pathL (f ++ [("f" : Str)])) = r.isPrefixOf f := (path_preB (hR.row r hr).noS hff.noS).trans pp_f
              rw [et]
              refine opt_some rfl ?_
              cases e : r.isPrefixOf f with
              | false =>
                rw [e] at hT2
                walk_at "go"
                exact hT2 _ ⟨_, rfl, by walk_at "lk"⟩
              | true =>
                rw [e] at hT2
                walk_at "go"
                exact hT2 _ ⟨_, rfl, by walk_at "lk"⟩
            case fin12 =>
              intro es hJ0
              refine hide fun hG => ?_
              obtain ⟨loc12, rfl, u1⟩ := hJ0
              refine hG ?_
              clear hG
              rw [filter_fm (fun r => r.isPrefixOf f) partTV]
              have hll : ((rows.filter fun r => r.isPrefixOf f).map partTV).length ≤ lim := by rw [List.length_map]; exact Nat.le_trans (List.length_filter_le ..) hrl
              refine ⟨hll, ?_⟩
              walk_at "sl"
              refine opt_some (sl_list hll rfl rfl) ?_
              rw [show (some (1 : Int)) = some ((1 : Nat) : Int) from rfl, pick_take]
              walk_at "go"
              refine callG (.fn rfl (.len (v := .list _) rfl (Nat.le_trans (List.length_take_le ..) (by simp [lim])))) ?_
              rw [← List.map_take, List.length_map, take1]
              walk_at "go"
              refine callG (.type rfl (str_bit _)) ?_
              exact hT' _ ⟨_, rfl, q1⟩
          case fin11 =>
            intro es hJ0
            refine hide fun hG => ?_
            obtain ⟨loc11, rfl, q1⟩ := hJ0
            refine hG ?_
            clear hG
            rw [fm_some]
            have e6 : files.map (fun f => TV.str (bitS (rows.any fun r => r.isPrefixOf f))) = (insideOf rows files).map .str := by unfold insideOf; rw [List.map_map]; rfl
            rw [e6]
            refine ⟨by rw [List.length_map]; unfold insideOf; rw [List.length_map]; exact hfl', ?_⟩
            walk_at "go"
            refine callG (.meth (.append ht8 (by simp [lim]))) ?_
            walk_at "go"
            refine ⟨by simp [lim], ?_⟩
            have ht9 := set_hit (x := Cell.list ((List.replicate 4 (insideOf rows files)).map rowTV ++ [rowTV (insideOf rows files)])) ht8
            have ha9 := set_off (x := Cell.list ((List.replicate 4 (insideOf rows files)).map rowTV ++ [rowTV (insideOf rows files)])) htc ha8
            have hfz : ∀ (D : List Cell) (a b : Nat) (xs ys : List TV), a ≠ b → D[a]? = some (.list xs) → D[b]? = some (.list ys) → frzs [.ref a, .ref b] D = ([.list xs, .list ys], (D.set a .dead).set b .dead) := fun D a b xs ys hab h1 h2 => by
              have h3 : (D.set a .dead)[b]? = some (.list ys) := set_off hab h2
              show ((frz (.ref a) D).1 :: (frz (.ref b) (frz (.ref a) D).2).1 :: [], (frz (.ref b) (frz (.ref a) D).2).2) = _
              rw [frz_L h1]
              show (TV.list xs :: (frz (.ref b) (D.set a .dead)).1 :: [], (frz (.ref b) (D.set a .dead)).2) = _
              rw [frz_L h3]
            have hz := hfz _ _ _ _ _ (Ne.symm htc) ha9 ht9
            dsimp only
            rw [hz]
            exact h acc hfin _
      · refine ifT (by cases R with | nil => exact absurd rfl hR0 | cons => rfl) ?_
        walk_at "go"
        refine opt_some (m_obj (f := "TS.get_ready") s.ob s.ns (by kernel_rfl) (by kernel_rfl)) (mNo (by kernel_rfl) (by decide) (by kernel_rfl) ?_)
        walk_at "go"
        refine callF (by kernel_rfl) (c_ready s hr (by walk_at "om") hRN hrb fun C2 s2 hr2 hf2 => ?_)
        have hrc : ∀ i, i = C.length → i ≠ d ∧ i ≠ r ∧ ∀ x ∈ N, i ≠ x.a := fun i e => ⟨by walk_at "om", by walk_at "om", fun x hx => by have := hrr.2.2 x hx; omega⟩
        refine hide fun hG => ?_
        obtain ⟨q1, q2, q3⟩ := hrc _ rfl
        refine hG ?_
        clear hG
        have hacc2 : C2[C.length]? = some (.list (acc.map rowTV)) := by rw [hf2 _ q1 q2 q3]; exact hacc
        have hmem := kn.len hR0
        walk_at "go"
        refine opt_some (m_append hacc2) (mNo (by kernel_rfl) (by decide) (by kernel_rfl) ?_)
        walk_at "go"
        refine callG (.fn rfl (.sorted (v := .tup (R.map .str)) rfl (by rw [List.length_map]; omega) (strList_map R))) ?_
        walk_at "go"
        refine callG (.meth (.append hacc2 (by rw [List.length_map]; walk_at "om"))) ?_
        walk_at "go"
        have s3 : So (C2.set C.length (.list (acc.map rowTV ++ [rowTV (sortS R)]))) k d m (.ref r) (p + (R.length : Nat)) p N (fun u => if u ∈ R then -1 else c u) suc true := by
          have hk : C.length ≠ k := fun e => by rw [e, s2.ob] at hacc2; cases hacc2
          have hm : C.length ≠ m := fun e => by rw [e, s2.gr.dict] at hacc2; cases hacc2
          refine ⟨set_off hk s2.ob, set_off q1 s2.ns, s2.gr.off hm q3 fun x hx e => ?_, s2.z⟩
          have := (hrr.2.2 x hx).2; omega
        have hr3 := set_off (i := C.length) (x := Cell.list (acc.map rowTV ++ [rowTV (sortS R)])) q2 hr2
        have hacc3 := set_hit (x := Cell.list (acc.map rowTV ++ [rowTV (sortS R)])) hacc2
        generalize C2.set C.length (.list (acc.map rowTV ++ [rowTV (sortS R)])) = C3 at *
        refine opt_some (m_obj (f := "TS.done") s3.ob s3.ns (by kernel_rfl) (by kernel_rfl)) (mYes (by kernel_rfl) ⟨rfl, ?_⟩)
        walk_at "go"
        refine opt_some rfl ⟨by rw [List.length_map]; walk_at "om", ?_⟩
        walk_at "go"
        rw [List.append_nil]
        obtain ⟨hno, kn2⟩ := kn.step
        refine callF (by kernel_rfl) (c_done s3 hr3 (by walk_at "om") hRN hrb (fun u => by have := hsl u; omega) hcls (fun v hv => if_pos hv) kn.rnd hno fun C4 s4 hr4 hf4 => ?_)
        walk_at "go"
        refine ⟨_, hK ▸ hmem, _, C4, _, _, _, _, acc ++ [sortS R], rfl, s4, hr4, ?_, kn2, rfl, ?_, ?_, b1, b2, b3, b4, b5⟩
        · rw [hf4 _ q1 q2 q3, List.map_append]; exact hacc3
        · rw [List.length_append, List.length_singleton]; omega
        · intro out ho
          have := hout _ (.go (fun e => hR0 (kn.nil.mp e)) ho)
          rwa [← kn.front, show acc ++ sortS R :: out = acc ++ [sortS R] ++ out by simp] at this
end

section
open PySem PySem.W PyProof.Rows

theorem eqvAll_rows (l : List (List Str)) : PyData.eqvAll (l.map rowPy) (l.map rowPy) = true := by
  induction l with
  | nil => rfl
  | cons a l ih => rw [List.map_cons, PyData.eqvAll, eqv_row, ih]; simp
theorem eq_due {cells : List Cell} (a : List (List Str)) (b : List Str) : cmpTV cells .Eq (dueTV a b) (dueTV a b) = some true := by
  have e1 : toPy cells (dueTV a b) = some (.list [.list (a.map rowPy), .list ((List.replicate 5 b).map rowPy)]) := by
    show (((toPys cells (a.map rowTV)).map PyData.list).bind fun x => (((toPys cells ((List.replicate 5 b).map rowTV)).map PyData.list).bind fun y => some [y]).map (x :: ·)).map PyData.list = _
    rw [toPys_rows, toPys_rows]
    rfl
  have e2 : pyOf cells (dueTV a b) = some (.list [.list (a.map rowPy), .list ((List.replicate 5 b).map rowPy)]) := e1
  have e3 : (PyData.list [.list (a.map rowPy), .list ((List.replicate 5 b).map rowPy)]).depth ≤ 60 := by
    rw [PyData.depth, PyData.depthAll, PyData.depthAll, PyData.depthAll, PyData.depth, PyData.depth]
    have h1 := depth_rows a
    have h2 := depth_rows (List.replicate 5 b)
    omega
  have e4 : PyData.eqv (.list [.list (a.map rowPy), .list ((List.replicate 5 b).map rowPy)]) (.list [.list (a.map rowPy), .list ((List.replicate 5 b).map rowPy)]) = true := by
    rw [PyData.eqv, PyData.eqvAll, PyData.eqvAll, PyData.eqvAll, PyData.eqv, PyData.eqv, eqvAll_rows, eqvAll_rows]; rfl
  exact (eq_py e2 e2 ⟨e3, e3⟩).trans (congrArg some e4)
theorem law_runs {n : Nat} {ns : List Int} {loc : Str → Option TV} {cells : List Cell} {Q : TF → ES → Prop} (hl : ns.length ≤ 63) (hs : loc "script" = some (.list (ns.map .int))) (q : ∀ es, Q (.ret (.bool true)) es) : (ev G2 (n + 200)).s ⟨f_law.scope, true⟩ f_law.body ⟨loc, cells⟩ Q := by
  have hnl : (ns.map TV.int).length ≤ lim := by rw [List.length_map]; walk_at "om"
  walk_at "go"
  walk_at "sl"
  refine opt_some (a := .list ((ns.take 4).map .int)) (by
    rw [sl_list hnl rfl rfl, show (some (4 : Int)) = some ((4 : Nat) : Int) from rfl, pick_take, List.map_take]) ?_
  walk_at "go"
  refine callF (by kernel_rfl) (c_rows (by rw [List.length_take]; omega) fun rows c1 hR => ?_)
  walk_at "go"
  refine callF (by kernel_rfl) (c_files hR fun files c2 hF => ?_)
  walk_at "go"
  have hrl : rows.length ≤ lim := by have := hR.hi; walk_at "om"
  have hrl' : (rows.map rowTV).length ≤ lim := by rw [List.length_map]; exact hrl
  have hfl : files.length ≤ lim := by have := hF.len; walk_at "om"
  have hfl' : (files.map rowTV).length ≤ lim := by rw [List.length_map]; exact hfl
  refine ⟨rfl, by kernel_rfl, fun _ _ => by rfl, by kernel_rfl, by decide, ?_⟩
  walk_at "go"
  refine walkL hrl' ?_
  refine gen_fmM (fun r => some (.str (path r))) (fun es => ∃ loc, es = ⟨loc, c2⟩) (fun es _ => standsL hrl') ?step1 ⟨_, rfl⟩ hrl ?fin1
  case step1 =>
    rintro r hr es ⟨loc, rfl⟩ T hT
    have hrow := hR.row r hr
    refine .name (sto (by kernel_rfl) ?_)
    walk_at "go"
    refine callF (by kernel_rfl) (c_path (Fil.of hrow.nm (by have := hrow.hi; omega)) (fun e => by have := hrow.lo; rw [e] at this; cases this) ?_)
    exact hT _ ⟨_, rfl⟩
  case fin1 =>
    rintro es ⟨loc1, rfl⟩
    have e1 : rows.filterMap (fun r => some (TV.str (path r))) = (rows.map path).map .str := by rw [fm_some, List.map_map]; rfl
    rw [e1]
    refine ⟨by rw [List.length_map, List.length_map]; exact hrl, ?_⟩
    walk_at "go"
    refine ⟨rfl, by kernel_rfl, fun _ _ => by rfl, by kernel_rfl, by decide, ?_⟩
    walk_at "go"
    refine walkL hfl' ?_
    refine gen_fmM (fun f => some (.str (fpath f))) (fun es => ∃ loc, es = ⟨loc, c2⟩) (fun es _ => standsL hfl') ?step2 ⟨_, rfl⟩ hfl ?fin2
    case step2 =>
      rintro f hf es ⟨loc, rfl⟩ T hT
      have h4 := hF.hi f hf
      refine .name (sto (by kernel_rfl) ?_)
      walk_at "go"
      refine ⟨by simp [lim], ?_⟩
      rw [frzs_nr rfl]
      dsimp only
      refine ⟨_, .addl rfl rfl (by simp [lim]; omega), ?_⟩
      walk_at "go"
      have e2 : TV.list (f.map TV.str ++ [TV.str "f"]) = rowTV (f ++ [("f" : Str)]) := by
        show _ = TV.list ((f ++ [("f" : Str)]).map TV.str)
        rw [List.map_append]; rfl
      rw [e2]
      refine callF (by kernel_rfl) (c_path (Fil.withF (hF.nm f hf) (by walk_at "om")) (by simp) ?_)
      exact hT _ ⟨_, rfl⟩
    case fin2 =>
      rintro es ⟨loc2, rfl⟩
      have e3 : files.filterMap (fun f => some (TV.str (fpath f))) = (files.map fpath).map .str := by rw [fm_some, List.map_map]; rfl
      rw [e3]
      refine ⟨by rw [List.length_map, List.length_map]; exact hfl, ?_⟩
      walk_at "go"
      refine callF (by kernel_rfl) (c_told hR hF fun out hout c3 => ?_)
      walk_at "go"
      refine callF (by kernel_rfl) (c_due hR hF fun M hM hM' c4 => ?_)
      rw [← hout M hM hM']
      refine opt_some (eq_due _ _) ?_
      exact q _
end

section
open PySem PySem.W PyProof.Rows
noncomputable def adL : List (Str × Addr) := [("_kind", 45), ("_c_path", 52), ("_shelf_fresh", 59), ("_splitroot", 66), ("_normpath", 73), ("normpath", 80), ("_Ignore", 103), ("_Ignore.__init__", 93), ("_Ignore.names", 100), ("_special_chars_map", 114),
  ("escape", 124), ("_translate", 131), ("_NodeInfo", 150), ("_NodeInfo.__init__", 146), ("TopologicalSorter", 247), ("TS.__init__", 183), ("TS._get_nodeinfo", 190), ("TS.add", 197), ("TS.prepare", 202), ("TS.get_ready", 209), ("TS.is_active", 216),
  ("TS.done", 230), ("TS._find_cycle", 237), ("_law_rows", 256), ("_law_files", 261), ("_law_takes", 266), ("_law_path", 273), ("_law_told", 278), ("_law_due", 283)]
noncomputable def adOf (x : Str) : Option Addr := adL.lookup x
/-- the addresses that are looked at -/
noncomputable def frAs : List Addr := [0, 1, 3, 247, 246, 103, 102, 150, 149, 151, 152, 153, 165, 88, 176, 114, 93, 92, 100, 99, 124, 123, 131, 130, 146, 145, 183, 182, 190, 189, 197, 196, 202, 201, 209, 208, 216, 215, 230, 229, 237, 236, 45, 44, 52, 51, 59, 58, 66, 65, 73, 72, 80, 79, 256, 255, 261, 260, 266, 265, 273, 272, 278, 277, 283, 282]
noncomputable def frOf (h : Heap) : Frag := frAs.filterMap fun a => (h.get? a).map fun o => (a, o)
noncomputable def clsChk (fr : Frag) (C : Addr) (init : Str) : Bool := makesIn fr C && match adOf init with
  | some f => findIn fr (.ref C) "__init__" == some (some (.ref f)) && typeIn fr (.ref f) == some (.type "function")
  | none => false
noncomputable def chkCls (fr : Frag) : Bool := adL.all fun p => match kinds.lookup p.1 with
  | some (.cls (some init)) => clsChk fr p.2 init
  | some (.slotted init _) => clsChk fr p.2 init
  | _ => true
noncomputable def attrChk (fr : Frag) (C : Addr) (a : Str) : Bool := plainGet fr C a && hasDictIn fr C && (match findIn fr (.ref C) a with | some attr => noGet fr attr | none => false) && findIn fr (.ref C) "__setattr__" == some (some (.builtin "object.__setattr__")) && plainOver fr C && takerIn fr C a == some none
noncomputable def chkAttr (fr : Frag) : Bool := attrs.all fun p => match adOf p.1 with
  | some C => attrChk fr C p.2
  | none => true
noncomputable def slotChk (fr : Frag) (C : Addr) (a : Str) (i : Nat) : Bool := plainGet fr C a && isClsIn fr C && (match findIn fr (.ref C) a with
  | some (some (.ref p)) => specialIn fr (.ref p) "__get__" == some (some (.builtin "member_descriptor.__get__")) && takesIn fr (.ref p) == some true && slotIn fr p C == some i && takerIn fr C a == some (some (.ref p)) && typeIn fr (.ref p) == some (.type "member_descriptor")
  | _ => false) && findIn fr (.ref C) "__setattr__" == some (some (.builtin "object.__setattr__")) && plainOver fr C && decide (i < 100)
noncomputable def chkSlot (fr : Frag) : Bool := slotsOf.all fun p => match adOf p.1.1 with
  | some C => slotChk fr C p.1.2 p.2
  | none => true
noncomputable def methChk (fr : Frag) (C : Addr) (m : Str) (f : Addr) : Bool := plainGet fr C m && findIn fr (.ref C) m == some (some (.ref f)) && typeIn fr (.ref f) == some (.type "function") && fnIn fr f && hasDictIn fr C && specialIn fr (.ref f) "__get__" == some (some (.builtin "function.__get__")) &&
  takesIn fr (.ref f) == some false && copiedNames.contains m == false
noncomputable def chkMeth (fr : Frag) : Bool := meths.all fun p => match adOf p.1.1 with
  | some C => (match adOf p.2 with | some f => methChk fr C p.1.2 f | none => false)
  | none => true
noncomputable def chkKeep (fr : Frag) : Bool := adL.all fun p => match kinds.lookup p.1 with
  | some _ => keepIn fr (.ref p.2)
  | none => true
noncomputable def valOk (v : Value) : TV → Bool
  | .su s => (match v with | .str x _ => x == s && PyData.strOk s | _ => false)
  | .int i => (match v with | .int j _ => i == j | _ => false)
  | .fn y => (match v with | .ref a => adOf y == some a | _ => false)
  | .g u => v == u && gOk u
  | _ => false
noncomputable def chkNames (fr : Frag) : Bool := (globsA.all fun p => match nsIn fr mainGlobals p.1 with
  | some (some v) => valOk v p.2
  | _ => false) && globsB.all fun p => nsIn fr mainGlobals p.1 == some none && match nsIn fr builtinsNs p.1 with
  | some (some v) => valOk v p.2
  | _ => false
noncomputable def charsChk (fr : Frag) : Bool := match fr.lookup 114 with
  | some ⟨.type "dict", none, .dict es _, ⟨[]⟩⟩ => (es.toList.all fun e => match e.key with | .int k _ => e.hash == hashInt k | _ => false) && (findBy Value.isInt es 97).isNone && (findBy Value.isInt es 98).isNone && (findBy Value.isInt es 47).isNone && (match findBy Value.isInt es 46 with | some (.str s _) => s == "\\." | _ => false)
  | _ => false
noncomputable def defChk (fr : Frag) (fd : FuncData) (f : FnI) : Bool := match fd.defaults with
  | .none => f.defaults.isEmpty
  | .ref T => (match fr.lookup T with
    | some ⟨_, _, .seq vs _, _⟩ => vs.toList.all (· == .none) && vs.toList.length == f.defaults.length && f.defaults.all (fun c => match c with | .none => true | _ => false)
    | _ => false)
  | _ => false
noncomputable def codeChk (fr : Frag) (fd : FuncData) : Bool := match fd.code with
  | .ref c => (match fr.lookup c with
    | some ⟨_, _, .fields vs, _⟩ => (match (vs[1]? : Option Value) with | some (.str q _) => q == fd.qualname | _ => false)
    | _ => false)
  | _ => false
noncomputable def chkFn (fr : Frag) : Bool := adL.all fun p => match kinds.lookup p.1 with
  | some (.fn f) => (match fr.lookup p.2 with | some ⟨_, _, .func fd, _⟩ => codeChk fr fd && defChk fr fd f | _ => false)
  | _ => true
noncomputable def seerChk (h : Heap) : Bool := h.isNs cStatics && (h.nsMap cStatics "sys.audit-hooks").isNone && (h.nsMap cStatics "sys.dict").isNone && h.isNs sysModules && (h.nsMap sysModules "_pylong").isNone
noncomputable def chk (h : Heap) : Bool := chkCls (frOf h) && chkAttr (frOf h) && chkSlot (frOf h) && chkMeth (frOf h) && chkKeep (frOf h) && chkNames (frOf h) && charsChk (frOf h) && chkFn (frOf h) && seerChk h && ((frOf h).lookup sysModules).isSome
noncomputable abbrev FP := FuncBody × Scope × List (Str × Addr) × Addr × Addr × List Arg × List Arg × List Str × Option Str × Option Str
noncomputable def partOf (fr : Frag) (p : Str × Addr) : Option FP := match fr.lookup p.2 with
  | some ⟨_, _, .func fd, _⟩ => some (fd.body, fd.scope, fd.closure, fd.globals, fd.builtins, fd.params.posonlyargs, fd.params.kwonlyargs, fd.params.args.map (·.arg), fd.params.vararg.map (·.arg), fd.params.kwarg.map (·.arg))
  | _ => none
noncomputable def expOf (p : Str × Addr) : Option FP := match kinds.lookup p.1 with
  | some (.fn f) => some (.stmts f.body, f.scope, [], mainGlobals, builtinsNs, [], [], f.params, f.vararg, f.kwarg)
  | _ => none
end

section
open PySem PySem.W PyProof.Rows
theorem lookup_mem {α β : Type} [BEq α] [LawfulBEq α] {l : List (α × β)} {x : α} {v : β} (h : List.lookup x l = some v) : (x, v) ∈ l := by
  induction l with
  | nil => cases h
  | cons p l ih =>
    obtain ⟨y, u⟩ := p
    rw [List.lookup_cons] at h
    split at h
    · rename_i e
      cases h
      rw [eq_of_beq e]; exact .head _
    · exact .tail _ (ih h)
theorem frOf_in (h : Heap) : (frOf h).In h := by
  intro a o e
  have := lookup_mem e
  obtain ⟨b, _, hb⟩ := List.mem_filterMap.mp this
  cases hg : h.get? b with
  | none => rw [hg] at hb; cases hb
  | some o' =>
    rw [hg] at hb
    simp only [Option.map_some, Option.some.injEq, Prod.mk.injEq] at hb
    obtain ⟨rfl, rfl⟩ := hb
    exact hg
/-- what the text's own heap gives -/
noncomputable def Says (h : Heap) : Prop := ∃ h0 : Heap, (∀ b o, h0.get? b = some o → h.get? b = some o) ∧ chk h0 = true ∧ adL.map (partOf (frOf h0)) = adL.map expOf
noncomputable def hook : Hook := ⟨Bool × List (Option FP), fun s => (chk s.heap, adL.map (partOf (frOf s.heap))), fun _ => (true, adL.map expOf), fun _ h => Says h,
  fun _ s e => ⟨s.heap, fun _ _ h => h, congrArg Prod.fst e, congrArg Prod.snd e⟩, fun _ _ _ ⟨h0, a, b, c⟩ k => ⟨h0, fun b o e => k b o (a b o e), b, c⟩⟩

section
variable {fr : Frag} {h : Heap}
theorem cls_ok {K : GK} (had : K.ad = adOf) {C : Addr} {init : Str} (e : clsChk K.fr C init = true) : ClsOk K C init := by
  unfold clsChk at e
  rw [Bool.and_eq_true] at e
  obtain ⟨e1, e2⟩ := e
  split at e2
  · rename_i f hf
    rw [Bool.and_eq_true, beq_iff_eq, beq_iff_eq] at e2
    exact ⟨e1, f, by rw [had]; exact hf, e2.1, e2.2⟩
  · cases e2
theorem dattr_ok {C : Addr} {a : Str} (e : attrChk fr C a = true) : DictAttr fr C a := by
  unfold attrChk at e
  simp only [Bool.and_eq_true, beq_iff_eq] at e
  obtain ⟨⟨⟨⟨⟨e1, e2⟩, e3⟩, e4⟩, e5⟩, e6⟩ := e
  refine ⟨e1, e2, ?_, e4, e5, e6⟩
  split at e3
  · rename_i x hx; exact ⟨x, hx, e3⟩
  · cases e3
theorem slot_ok {C : Addr} {a : Str} {i : Nat} (e : slotChk fr C a i = true) : SlotAttr fr C a i := by
  unfold slotChk at e
  simp only [Bool.and_eq_true, beq_iff_eq, decide_eq_true_eq] at e
  obtain ⟨⟨⟨⟨⟨e1, e2⟩, e3⟩, e4⟩, e5⟩, e6⟩ := e
  refine ⟨e1, e2, ?_, e4, e5, e6⟩
  split at e3
  · rename_i p hp
    simp only [Bool.and_eq_true, beq_iff_eq] at e3
    obtain ⟨⟨⟨⟨k1, k2⟩, k3⟩, k4⟩, k5⟩ := e3
    exact ⟨p, hp, k1, k2, k3, k4, k5⟩
  · cases e3
theorem meth_ok {C : Addr} {m : Str} {f : Addr} (e : methChk fr C m f = true) : MethAt fr C m f := by
  unfold methChk at e
  simp only [Bool.and_eq_true, beq_iff_eq] at e
  obtain ⟨⟨⟨⟨⟨⟨⟨e1, e2⟩, e3⟩, e4⟩, e5⟩, e6⟩, e7⟩, e8⟩ := e
  exact ⟨e1, e2, e3, e4, e5, e6, e7, e8⟩
/-- a def as it stands in the program -/
noncomputable def fnChk (f : FnI) : Bool := !f.scope.isCoroutine && !f.scope.isGenerator && f.scope.kind == .function && decide f.names.Nodup && (f.names.all fun x => f.scope.names.lookup x == some .local || f.scope.names.lookup x == some .cell) &&
  (f.scope.names.all fun p => !(p.2 == .free)) && decide (f.defaults.length ≤ f.params.length)
theorem fns_ok : (kinds.all fun p => match p.2 with | .fn f => fnChk f | _ => true) = true := by decide +kernel
theorem DefR.nones {ad : Str → Option Addr} {cs : List Const} : ∀ {vs : List Value}, (∀ c ∈ cs, c = .none) → (∀ v ∈ vs, v = .none) → vs.length = cs.length → DefR ad cs vs := by
  induction cs with
  | nil =>
    intro vs _ _ h
    cases vs with
    | nil => exact F2.nil
    | cons => cases h
  | cons c cs ih =>
    intro vs h1 h2 h
    cases vs with
    | nil => cases h
    | cons v vs => exact F2.cons ⟨.none, by rw [h1 c (.head _)]; rfl, fun W => by rw [h2 v (.head _)]; exact .none⟩ (ih (fun c hc => h1 c (.tail _ hc)) (fun v hv => h2 v (.tail _ hv)) (Nat.succ.inj h))
theorem fn_ok' (hin : fr.In h) {x : Str} {a : Addr} {f : FnI} (hk : List.lookup x kinds = some (.fn f)) (hp : partOf fr (x, a) = expOf (x, a)) (hc : (match fr.lookup a with | some ⟨_, _, .func fd, _⟩ => codeChk fr fd && defChk fr fd f | _ => false) = true) : FnOk adOf h a f := by
  have hf := List.all_eq_true.mp fns_ok _ (lookup_mem hk)
  simp only at hf
  unfold fnChk at hf
  simp only [Bool.and_eq_true, Bool.not_eq_true', beq_iff_eq, decide_eq_true_eq, List.all_eq_true, Bool.or_eq_true, beq_eq_false_iff_ne] at hf
  obtain ⟨⟨⟨⟨⟨⟨f1, f2⟩, f3⟩, f4⟩, f5⟩, f6⟩, f7⟩ := hf
  refine ⟨?_, f1, f2, f3, f4, fun x hx => f5 x hx, fun p hp => f6 p hp, f7⟩
  unfold expOf partOf at hp
  rw [hk] at hp
  split at hc
  · rename_i cl dc fd sl ho
    simp only at hp ho
    rw [ho] at hp
    simp only [Option.some.injEq, Prod.mk.injEq] at hp
    obtain ⟨p1, p2, p3, p4, p5, p6, p7, p8, p9, p10⟩ := hp
    rw [Bool.and_eq_true] at hc
    obtain ⟨c1, c2⟩ := hc
    have hcode : h.CodeRec fd.code fd.qualname := by
      unfold codeChk at c1
      split at c1
      · rename_i c hcd
        split at c1
        · rename_i c' dc' vs sl' ho'
          split at c1
          · rename_i q t hq
            rw [beq_iff_eq] at c1
            exact ⟨c, _, vs, t, hcd, hin _ _ ho', rfl, by rw [← c1]; exact hq⟩
          · cases c1
        · cases c1
      · cases c1
    have hd : ∃ ds, ((fd.defaults = .none ∧ ds = []) ∨ ∃ T o n, fd.defaults = .ref T ∧ h.get? T = some o ∧ o.data = .seq ds.toArray n) ∧ DefR adOf f.defaults ds := by
      unfold defChk at c2
      split at c2
      · rename_i hdn
        rw [List.isEmpty_iff] at c2
        exact ⟨[], .inl ⟨hdn, rfl⟩, by rw [c2]; exact F2.nil⟩
      · rename_i T hdn
        split at c2
        · rename_i c' dc' vs n sl' ho'
          simp only [Bool.and_eq_true, List.all_eq_true, beq_iff_eq] at c2
          obtain ⟨⟨k1, k2⟩, k3⟩ := c2
          refine ⟨vs.toList, .inr ⟨T, _, n, hdn, hin _ _ ho', by simp⟩, DefR.nones (fun c hc => ?_) k1 k2⟩
          have := k3 c hc
          cases c <;> first | rfl | cases this
        · cases c2
      · cases c2
    obtain ⟨ds, hd1, hd2⟩ := hd
    exact ⟨_, fd, ds, ⟨hin _ _ ho, rfl, hcode, p1, p2, p3, p4, p5, p6, p7, p8, p9, p10, hd1, hd2⟩⟩
  · cases hc
theorem ns_at (hin : fr.In h) {a : Addr} {m : Str → Option Value} (hn : h.Ns a m) {x : Str} {r : Option Value} (e : nsIn fr a x = some r) : m x = r := by
  obtain ⟨o, es, ep, ho, hd, hk, hm⟩ := hn
  unfold nsIn at e
  split at e
  · rename_i c d es' n sl hl
    have := hin _ _ hl
    rw [ho] at this
    cases this
    cases hd
    rw [← hm]
    split at e
    · rename_i en hf
      cases e
      show findBy _ es x = _
      unfold findBy
      rw [← Array.find?_toList, hf]; rfl
    · rename_i hf
      split at e
      · cases e
      · cases e
        show findBy _ es x = _
        unfold findBy
        rw [← Array.find?_toList, hf]; rfl
  · cases e
theorem val_ok {tv : TV} {v : Value} (e : valOk v tv = true) (W : Wd) : Rp adOf W tv v := by
  cases tv <;> simp only [valOk] at e <;> try (cases e; done)
  · split at e
    · rename_i j t
      rw [beq_iff_eq] at e; subst e; exact .int _ _
    · cases e
  · split at e
    · rename_i x t
      rw [Bool.and_eq_true, beq_iff_eq] at e
      obtain ⟨rfl, e⟩ := e
      exact .su e
    · cases e
  · split at e
    · rw [beq_iff_eq] at e; exact .fn e
    · cases e
  · rw [Bool.and_eq_true, beq_iff_eq] at e
    obtain ⟨rfl, e⟩ := e
    exact .g e
theorem chars_ok {prog : Program} {w : World} (hin : fr.In h) (e : charsChk fr = true) : ∃ f : Int → Option Value, h.MapOf (intKind prog w) 114 f ∧ f 97 = none ∧ f 98 = none ∧ f 47 = none ∧ ∃ u, f 46 = some (.str "\\." u) := by
  unfold charsChk at e
  split at e
  · rename_i es n ho
    simp only [Bool.and_eq_true, List.all_eq_true, Option.isNone_iff_eq_none] at e
    obtain ⟨⟨⟨⟨e1, e2⟩, e3⟩, e4⟩, e5⟩ := e
    refine ⟨fun k => findBy Value.isInt es k, ⟨_, es, n, hin _ _ ho, ⟨rfl, rfl, rfl⟩, rfl, fun en hen => ?_, fun k => rfl⟩, e2, e3, e4, ?_⟩
    · have := e1 en (by simpa using hen)
      split at this
      · rename_i k t hk
        rw [beq_iff_eq] at this
        refine ⟨k, ?_, this⟩
        rw [hk]
        show Value.isInt k (.int k t) = true
        simp [Value.isInt]
      · cases this
    · split at e5
      · rename_i s u hs
        rw [beq_iff_eq] at e5
        exact ⟨u, by show findBy Value.isInt es 46 = _; rw [hs, e5]⟩
      · cases e5
  · cases e
end
end

section
open PySem PySem.W PyProof.Rows
noncomputable def mkT (l : List Obj) : Nat → Nat → Nat → BT
  | 0, _, _ => .nil
  | f + 1, a, b => match l[b]? with
    | some o => .node o (mkT l f (2 * a) (a + b)) (mkT l f (2 * a) (2 * a + b))
    | none => .nil
theorem mkT_get (l : List Obj) : ∀ (f a b i : Nat), i < f → (mkT l f a b).get i = l[b + a * i]? ∨ (a = 0 ∧ 0 < i)
  | 0, _, _, _, h => absurd h (Nat.not_lt_zero _)
  | f + 1, a, b, i, h => by
    by_cases ha : a = 0 ∧ 0 < i
    · exact .inr ha
    refine .inl ?_
    unfold mkT
    split
    · rename_i o ho
      rw [BT.get_node]
      by_cases h0 : i = 0
      · subst h0; rw [if_pos rfl, Nat.mul_zero, Nat.add_zero, ho]
      · rw [if_neg h0]
        have ha' : a ≠ 0 := fun e => ha ⟨e, by omega⟩
        by_cases hi : i % 2 = 1
        · rw [if_pos hi]
          obtain ⟨j, rfl⟩ : ∃ j, i = 2 * j + 1 := ⟨i / 2, by omega⟩
          rw [show (2 * j + 1) / 2 = j by omega]
          rcases mkT_get l f (2 * a) (a + b) j (by omega) with e | e
          · rw [e]
            congr 1
            rw [Nat.mul_add, Nat.mul_one, Nat.mul_assoc, Nat.mul_left_comm]; omega
          · omega
        · rw [if_neg hi]
          obtain ⟨j, rfl⟩ : ∃ j, i = 2 * j + 2 := ⟨i / 2 - 1, by omega⟩
          rw [show (2 * j + 2) / 2 - 1 = j by omega]
          rcases mkT_get l f (2 * a) (2 * a + b) j (by omega) with e | e
          · rw [e]
            congr 1
            rw [Nat.mul_add, Nat.mul_assoc, Nat.mul_left_comm]; omega
          · omega
    · rename_i hn
      have : l[b + a * i]? = none := List.getElem?_eq_none (by have := List.getElem?_eq_none_iff.mp hn; omega)
      rw [this]; rfl
noncomputable def toT (s : Shared) : SharedT := ⟨mkT s.heap.objs.toList (s.heap.objs.size + 1) 1 0, s.heap.objs.size, s.heap.life, s.gens, s.drawn, s.toks, s.os⟩
theorem toT_abs (s : Shared) : (toT s).abs = s := by
  obtain ⟨⟨⟨l⟩, life⟩, gens, drawn, toks, os⟩ := s
  have e : (mkT l (l.length + 1) 1 0).list l.length = l := by
    unfold BT.list
    apply List.ext_getElem?
    intro i
    rw [List.getElem?_map]
    by_cases h : i < l.length
    · rw [List.getElem?_range h, Option.map_some]
      rcases mkT_get l (l.length + 1) 1 0 i (by omega) with e | e
      · rw [e, Nat.one_mul, Nat.zero_add, List.getElem?_eq_getElem h]; rfl
      · omega
    · have h1 : (List.range l.length)[i]? = none := List.getElem?_eq_none (by rw [List.length_range]; omega)
      have h2 : l[i]? = none := List.getElem?_eq_none (by omega)
      rw [h1, h2]; rfl
  show Shared.mk ⟨((mkT l (l.length + 1) 1 0).list l.length).toArray, life⟩ gens drawn toks os = _
  rw [e]
/-- the run of the text, its steps handed in -/
noncomputable def topRunX (ok : Nat → Option Value → Thread → Bool) (st : SharedT → Thread → Option (SharedT × Thread)) (n₀ : Nat) (ann : Option Value) : Nat → SharedT → Thread → Option SharedT
  | 0, _, _ => none
  | n + 1, s, t => match through t with
    | true => some s
    | false => match ok n₀ ann t with
      | false => none
      | true => match st s t with
        | some (s', t') => topRunX ok st n₀ ann n s' t'
        | none => none
theorem topRunX_of {tb : String → Option Builtin} {p : Program} {w : World} {n₀ : Nat} {ann : Option Value} : ∀ {n : Nat} {s s' : SharedT} {t : Thread}, topRunX stepOk (stepT (denote tb) p w) n₀ ann n s t = some s' → topRun tb p w n₀ ann n s.abs t = some s'.abs
  | 0, _, _, _, h => by cases h
  | n + 1, s, s', t, h => by
    unfold topRunX at h
    unfold topRun
    cases ht : through t with
    | true => rw [ht] at h; cases h; rfl
    | false =>
      rw [ht] at h
      cases hk : stepOk n₀ ann t with
      | false => rw [hk] at h; cases h
      | true =>
        rw [hk] at h
        cases hs : stepT (denote tb) p w s t with
        | none => rw [hs] at h; cases h
        | some r => obtain ⟨s₂, t₂⟩ := r; rw [hs] at h; rw [stepT_spec hs]; exact topRunX_of h
noncomputable def impRunX (ex : Thread → Option (List Value)) (st : SharedT → Thread → Option (SharedT × Thread)) : Nat → SharedT → Thread → Option SharedT
  | 0, _, _ => none
  | n + 1, s, t => match ex t with
    | some [] => some s
    | some (_ :: _) => none
    | none => match st s t with
      | some (s', t') => impRunX ex st n s' t'
      | none => none
theorem impRunX_of {tb : String → Option Builtin} {p : Program} {w : World} : ∀ {n : Nat} {s s' : SharedT} {t : Thread}, impRunX (·.atExitBegin) (stepT (denote tb) p w) n s t = some s' → importEnds tb p w n s.abs t = some s'.abs
  | 0, _, _, _, h => by cases h
  | n + 1, s, s', t, h => by
    unfold impRunX at h
    unfold importEnds
    cases he : t.atExitBegin with
    | some x =>
      rw [he] at h
      cases x with
      | nil => cases h; rfl
      | cons => cases h
    | none =>
      rw [he] at h
      cases hs : stepT (denote tb) p w s t with
      | none => rw [hs] at h; cases h
      | some r => obtain ⟨s₂, t₂⟩ := r; rw [hs] at h; dsimp only; rw [stepT_spec hs]; exact impRunX_of h
noncomputable def topFromX (ok : Nat → Option Value → Thread → Bool) (st : SharedT → Thread → Option (SharedT × Thread)) (p : Program) (N : Nat) (s₀ : Shared) : Option Shared :=
  match s₀.heap.isNs mainGlobals && s₀.gens.size == 0 with
  | true => (topRunX ok st s₀.heap.objs.size (s₀.heap.nsMap mainGlobals "__annotations__") N (toT s₀) (topStub p)).bind fun s => match staticsOk (importedModules p.main.body) s₀.heap s.abs.heap && namesBound p s.abs.heap && gensDone s.abs && laidKept s₀.heap s.abs.heap with
      | true => some s.abs
      | false => none
  | false => none
theorem topFromX_of {tb : String → Option Builtin} {p : Program} {w : World} {N : Nat} {s₀ s : Shared} (h : topFromX stepOk (stepT (denote tb) p w) p N s₀ = some s) : topFrom tb p w N s₀ = some s := by
  unfold topFromX at h
  unfold topFrom
  cases hc : (s₀.heap.isNs mainGlobals && s₀.gens.size == 0) with
  | false => rw [hc] at h; cases h
  | true =>
    rw [hc] at h
    obtain ⟨s', h1, h2⟩ := Option.bind_eq_some_iff.mp h
    have := topRunX_of h1
    rw [toT_abs] at this
    dsimp only
    rw [this]
    exact h2
noncomputable def openX (ex : Thread → Option (List Value)) (ok : Nat → Option Value → Thread → Bool) (st : Program → SharedT → Thread → Option (SharedT × Thread)) (p : Program) (N : Nat) : Option Shared :=
  (impRunX ex (st (opening p)) N (toT (start (opening p)).1) (start (opening p)).2).bind fun s => (fenceModules? p s.abs).bind (topFromX ok (st p) p N)
theorem openX_of {tb : String → Option Builtin} {p : Program} {w : World} {N : Nat} {s : Shared} (h : openX (·.atExitBegin) stepOk (fun p => stepT (denote tb) p w) p N = some s) : openEnds tb p w N = some s := by
  obtain ⟨s1, h1, h2⟩ := Option.bind_eq_some_iff.mp h
  obtain ⟨s2, h3, h4⟩ := Option.bind_eq_some_iff.mp h2
  have := impRunX_of h1
  rw [toT_abs] at this
  unfold openEnds fencedOpening
  rw [this]
  show ((fenceModules? p s1.abs)).bind _ = _
  rw [h3]
  exact topFromX_of h4
/-- the library's quick forms of the steps -/
theorem quickX (p : Program) (w : World) (N : Nat) : openX (·.atExitBegin) stepOk (fun p => stepT (denote treeTable) p w) p N =
    openX (fun t => PySem.W.Fast.tw3805553451399329143 t) PySem.W.Fast.tw6613529449190102663 (fun p => PySem.W.Fast.tw10156331382660048174 (PySem.W.Fast.tw11892475500146522536 PySem.W.Fast.tw14364793385576792824) p w) p N := by
  rw [← PySem.W.Fast.te3805553451399329143, ← PySem.W.Fast.te6613529449190102663, ← PySem.W.Fast.te10156331382660048174, ← PySem.W.Fast.te11892475500146522536, ← PySem.W.Fast.te14364793385576792824]
theorem LeftO.ofX {p q : Program} {loose : List Str} {Xt : Shared → Bool} {α : Type} {Yf : Shared → α} {Ya : World → α} {N : Nat} {g0 : Bool}
    (h : ∀ w, (openX (fun t => PySem.W.Fast.tw3805553451399329143 t) PySem.W.Fast.tw6613529449190102663 (fun p => PySem.W.Fast.tw10156331382660048174 (PySem.W.Fast.tw11892475500146522536 PySem.W.Fast.tw14364793385576792824) p w) p N).map
      (fun s => (PySem.W.Fast.tw4187177175401517315 q loose (importedModules p.main.body) Xt g0 s, Yf s)) = some (openGood q loose, Ya w)) : LeftO p q loose Xt Yf Ya N g0 := fun w => by
  have h := h w
  rw [← quickX, ← PySem.W.Fast.te4187177175401517315] at h
  obtain ⟨s, h1, h2⟩ := Option.map_eq_some_iff.mp h
  rw [openX_of h1]
  exact congrArg some h2
end

section
open PySem PySem.W PyProof.Rows
theorem all_at {α : Type} {l : List α} {p : α → Bool} (h : l.all p = true) {x : α} (hx : x ∈ l) : p x = true := List.all_eq_true.mp h x hx
theorem base_of {w : World} {h h0 : Heap} {mg mb : Str → Option Value} (prog : Program) (hsub : ∀ b o, h0.get? b = some o → h.get? b = some o) (hc : chk h0 = true) (hp : adL.map (partOf (frOf h0)) = adL.map expOf)
    (hg : h.Ns mainGlobals mg) (hb : h.Ns builtinsNs mb) (hnl : h.NoLimit) (hns : h.NoSeer) : Base G2 ⟨prog, w, h, adOf, frOf h0⟩ := by
  have hin : (frOf h0).In h := (frOf_in h0).keeps hsub
  unfold chk at hc
  simp only [Bool.and_eq_true] at hc
  obtain ⟨⟨⟨⟨⟨⟨⟨⟨⟨c1, c2⟩, c3⟩, c4⟩, c5⟩, c6⟩, c7⟩, c8⟩, c9⟩, c10⟩ := hc
  refine ⟨?_, ?_, ?_, ?_, hin, ?_, ?_, ?_, hnl, hns, ?_, ?_, ?_, ?_⟩
  · intro x C init hx hk
    have e := all_at c1 (lookup_mem hx)
    have hk : List.lookup x kinds = some (.cls (some init)) := hk
    simp only [hk] at e
    exact cls_ok rfl e
  · intro x C init names hx hk
    have e := all_at c1 (lookup_mem hx)
    have hk : List.lookup x kinds = some (.slotted init names) := hk
    simp only [hk] at e
    exact cls_ok rfl e
  · intro C hC _
    have : adOf "CycleError" = none := by decide +kernel
    have hC : adOf "CycleError" = some C := hC
    rw [this] at hC; cases hC
  · intro x a f hx hk
    have hm := lookup_mem hx
    have hk : List.lookup x kinds = some (.fn f) := hk
    have e := all_at c8 hm
    simp only [hk] at e
    have hpt : partOf (frOf h0) (x, a) = expOf (x, a) := by
      have := List.map_inj_left.mp hp (x, a) hm
      exact this
    exact fn_ok' hin hk hpt e
  · intro c C a hx ha
    have ha : attrs.contains (c, a) = true := ha
    have e := all_at c2 (List.contains_iff_mem.mp ha)
    have hx : adOf c = some C := hx
    simp only [hx] at e
    exact dattr_ok e
  · intro c C a i hx ha
    have ha : List.lookup (c, a) slotsOf = some i := ha
    have e := all_at c3 (lookup_mem ha)
    have hx : adOf c = some C := hx
    simp only [hx] at e
    exact slot_ok e
  · intro c C m fn hx hm
    have hm : List.lookup (c, m) meths = some fn := hm
    have e := all_at c4 (lookup_mem hm)
    have hx : adOf c = some C := hx
    simp only [hx] at e
    split at e
    · rename_i f hf; exact ⟨f, hf, meth_ok e⟩
    · cases e
  · obtain ⟨o, ho⟩ := Option.isSome_iff_exists.mp c10
    exact ⟨o, hin _ _ ho⟩
  · intro a ha
    have h114 : adOf "_special_chars_map" = some 114 := by decide +kernel
    have ha : adOf "_special_chars_map" = some a := ha
    rw [h114] at ha
    cases ha
    exact ⟨by decide, chars_ok hin c7⟩
  · intro x tv hx
    have hm : (x, tv) ∈ globs := lookup_mem hx
    unfold chkNames at c6
    rw [Bool.and_eq_true] at c6
    obtain ⟨n1, n2⟩ := c6
    rcases List.mem_append.mp hm with hm | hm
    · have e := all_at n1 hm
      simp only at e
      split at e
      · rename_i v hv
        exact ⟨mg, mb, v, hg, hb, .inl (ns_at hin hg hv), val_ok e⟩
      · cases e
    · have e := all_at n2 hm
      simp only [Bool.and_eq_true, beq_iff_eq] at e
      obtain ⟨e1, e2⟩ := e
      split at e2
      · rename_i v hv
        exact ⟨mg, mb, v, hg, hb, .inr ⟨ns_at hin hg e1, ns_at hin hb hv⟩, val_ok e2⟩
      · cases e2
  · intro x a k hx hk
    have e := all_at c5 (lookup_mem hx)
    have hk : List.lookup x kinds = some k := hk
    simp only [hk] at e
    exact e
theorem seer_ok {h h0 : Heap} {mg mb : Str → Option Value} (hsub : ∀ b o, h0.get? b = some o → h.get? b = some o) (hc : chk h0 = true) (hg : h.Ns mainGlobals mg) (hb : h.Ns builtinsNs mb)
    (hbl : ∀ x : Str, x ≠ "__name__" → mb x = bootBuiltins x) (hm : ∃ bm ob, mg "__builtins__" = some (.ref bm) ∧ bm ≠ builtinsNs ∧ h.get? bm = some ob ∧ ob.cls = .type "module" ∧ ob.dict = some builtinsNs ∧ ob.data = .plain) : h.NoSeer := by
  unfold chk at hc
  simp only [Bool.and_eq_true] at hc
  obtain ⟨⟨_, c9⟩, _⟩ := hc
  unfold seerChk at c9
  simp only [Bool.and_eq_true, Option.isNone_iff_eq_none] at c9
  obtain ⟨⟨⟨⟨s1, s2⟩, s3⟩, s4⟩, s5⟩ := c9
  obtain ⟨bm, ob, b1, _, b3, b4, b5, _⟩ := hm
  exact ⟨⟨_, (Heap.Ns.of_isNs s1).keepsP hsub, s2, s3⟩, ⟨_, (Heap.Ns.of_isNs s4).keepsP hsub, s5⟩, ⟨mb, hb, hbl⟩, ⟨mg, bm, ob, hg, b1, b3, b4, b5⟩⟩
theorem ints_rp {ad : Str → Option Addr} {W : Wd} : ∀ {vs : List Value} {ns : List Int}, IntsAre vs ns → RpL ad W (ns.map .int) vs
  | _, _, .nil => .nil
  | _, _, .cons n t h => .cons (.int n t) (ints_rp h)
theorem law_scope_ok : (f_law.scope.names.all fun p => !(p.2 == .free) && !(p.2 == .cell)) = true := by decide +kernel
end

section
open PySem PySem.W PyProof.Rows
section
noncomputable def keepIdx : List Stmt := [0, 1, 2, 4, 5, 6, 7, 8, 9, 11, 12, 14, 15, 17, 19, 20, 21, 22, 23, 25, 26, 27, 28, 29, 30, 31].filterMap fun i => PySem.Challenge.pw_il0112_02.main.body[i]?
noncomputable def view : Program := { PySem.Challenge.pw_il0112_02 with main := { PySem.Challenge.pw_il0112_02.main with body := keepIdx } }
noncomputable def loose : List Str := [Str.ofString "_twin_re_1", Str.ofString "_special_chars_map", Str.ofString "_NodeInfo"]
theorem said : PySem.Challenge.rw_il0112_02.wellSaid = true := by kernel_rfl
noncomputable def dK : DefRec × List (Str × Expr) := (defOf view PySem.Challenge.rw_il0112_02.row.name).get (by kernel_rfl)

/-- the law's own call, from its frame on -/
theorem law_walk {w : World} {s₁ : Shared} {h₁ : Heap} {mg mb : Str → Option Value} {cl : Str → Option Addr} {mean : ExcName → Option Value} {env : Env} {a : Addr} {ns : List Int} {vs : List Value} {tk : Nat} {E : Value → Shared → Prop}
    (hs : Says s₁.heap) (hg : s₁.gens = #[]) (g : s₁.heap.Ns mainGlobals mg) (b : s₁.heap.Ns builtinsNs mb) (hnl : s₁.heap.NoLimit) (hns : s₁.heap.NoSeer)
    (hl : ¬ ((63 : Nat) : Int) < (ns.length : Nat)) (ha : s₁.heap.get? a = some (listObj vs 0)) (hi : IntsAre vs ns) (F : PyProof.Rows.Fr s₁.heap s₁.heap.objs.size h₁ fun x => List.lookup x [("script", Value.ref a)])
    (he : env = { scope := f_law.scope, locals := s₁.heap.objs.size, globals := mainGlobals, cells := [], qual := env.qual, func := env.func, code := env.code, frame := some s₁.heap.objs.size, builtins := builtinsNs }) (htk : s₁.toks < tk) :
    wpAny (model PySem.Challenge.rw_il0112_02.row.prog w) (callerA.deeper env) (execs f_law.body env)
      (fun f s' => GoodW PySem.Challenge.rw_il0112_02.row.claim cl mean [ofPy (PyData.list (ns.map PyData.int))] s₁ (Except.ok (Flow.ret (match f with | Flow.ret v => v | _ => Value.none))) s') E { heap := h₁, gens := s₁.gens, drawn := s₁.drawn, toks := tk, os := s₁.os } := by
  obtain ⟨h0, hsub, hc, hp⟩ := hs
  have hB := base_of (w := w) PySem.Challenge.rw_il0112_02.row.prog hsub hc hp g b hnl hns
  have hloc : env.locals = s₁.heap.objs.size := by rw [he]
  have hsc : env.scope = f_law.scope := by rw [he]
  have hfrm : env.frame = some s₁.heap.objs.size := by rw [he]
  have hdict : DictAt h₁ s₁.heap.objs.size := .ns F.ns
  have hkd : env.scope.kind ≠ .module := by rw [hsc]; decide +kernel
  have hcf : ∀ x, f_law.scope.names.lookup x ≠ some .free ∧ f_law.scope.names.lookup x ≠ some .cell := fun x => by
    refine ⟨fun e => ?_, fun e => ?_⟩ <;> (have := all_at law_scope_ok (lookup_mem e); simp at this)
  have S := (ev_ok hB 200 ⟨s₁, [env]⟩).s ⟨f_law.scope, true⟩ f_law.body ⟨lookD [("script", .list (ns.map .int))], []⟩ _ (law_runs (n := 0) (ns := ns) (Q := fun fl _ => fl = .ret (.bool true)) (by omega) lookD_hit (fun _ => rfl))
  have hVL : ∀ x o, s₁.heap.get? x = some o → (Gh.wd ⟨[], fun _ => none⟩ (fun y => y = s₁.heap.objs.size) [] h₁).V x o := fun x o e => ⟨F.keep x o e, fun z => Nat.ne_of_lt (Heap.lt_size e) z, fun ⟨i, c, e, _⟩ => by simp at e⟩
  refine S _ env (fun y => y = s₁.heap.objs.size) (fun y => y = s₁.heap.objs.size) ⟨[], fun _ => none⟩ _ E _ ⟨?_, ?_, fun _ => rfl, rfl⟩ rfl ⟨⟨⟨_, _, _, rfl⟩, hVL, ?_, fun _ h => (nomatch h), rfl, List.nodup_nil, fun _ h => (nomatch h), fun _ h => (nomatch h), fun i c x e => by simp at e, Nat.lt_of_le_of_lt (Nat.zero_le _) htk, fun _ _ h => (nomatch h), ?_⟩, ?_⟩ ?_ ?_
  · show callerA.depth + 1 + 200 < 700
    decide
  · show 4 + 3 + 8 * 200 < 9000
    decide
  · rintro x rfl
    obtain ⟨o, _, _, e, _⟩ := hdict
    exact ⟨o, e⟩
  · intro e he'
    rw [List.mem_singleton.mp he']
    exact ⟨hkd, _, hfrm, rfl, hdict⟩
  · refine ⟨by rw [hsc]; decide +kernel, fun x => ?_, by rw [he], by rw [he], fun _ h => h, hloc, ?_, fun x hx => absurd hx (hcf x).2, fun x hx => absurd hx (hcf x).1, fun x y z hx => absurd hx (hcf x).2⟩
    · exact fun k e => .inl ((by rw [he]; rfl : env.kindOf x = f_law.scope.names.lookup x).trans e)
    · rw [hloc]
      refine ⟨_, F.ns, fun x tv _ hx => ?_⟩
      by_cases e : ("script" : Str) = x
      · have e2 : TV.list (ns.map .int) = tv := Option.some.inj ((if_pos e).symm.trans hx)
        subst e2
        refine ⟨.ref a, ?_, .list (hVL _ _ ha) (ints_rp hi)⟩
        rw [← e]; rfl
      · exact noneE ((if_neg e).symm.trans hx)
  · intro fl s' tf es' g' hq n' k' hf
    subst hq
    · obtain ⟨u, hfl, hf⟩ := hf
      subst hfl
      have hu : u = .bool true := hf.boolE rfl
      subst hu
      obtain ⟨h', tk', dr', hs'⟩ := n'.inv.same
      refine ⟨.inl ⟨_, .bool true, [], rfl, ?_, ?_, ?_, ?_⟩, fun x o e => (n'.inv.base x o e).1, ?_, ?_⟩
      · intro c; rfl
      · exact .bool true
      · kernel_rfl
      · exact fun _ => ⟨List.nodup_nil, fun _ h => (nomatch h)⟩
      · rw [hs']
      · rw [hs']; exact hg
  · intro h' e s' es' g' C us hq
    cases hq
end
end

section
open PySem PySem.W PyProof.Rows
section
noncomputable def Xt (s : Shared) : Bool := xlAt view [] s && recOk (RowW.records PySem.Challenge.rw_il0112_02.row.toRowW) s
/-- the text's run in one world, and what is seen of its end -/
noncomputable def Ran (w : World) : Prop := (openX (fun t => PySem.W.Fast.tw3805553451399329143 t) PySem.W.Fast.tw6613529449190102663 (fun p => PySem.W.Fast.tw10156331382660048174 (PySem.W.Fast.tw11892475500146522536 PySem.W.Fast.tw14364793385576792824) p w) PySem.Challenge.pw_il0112_02 6392).map
      (fun s => (PySem.W.Fast.tw4187177175401517315 view loose (importedModules PySem.Challenge.pw_il0112_02.main.body) Xt true s, hook.obs s)) = some (openGood view loose, hook.val w)
theorem ran_ff (w : World) : Ran ((w.withFollow "special-get-raises" false).withFollow "comprehension-iter-twice" false) := by unfold Ran; kernel_rfl
theorem ran_ft (w : World) : Ran ((w.withFollow "special-get-raises" false).withFollow "comprehension-iter-twice" true) := by unfold Ran; kernel_rfl
theorem ran_tf (w : World) : Ran ((w.withFollow "special-get-raises" true).withFollow "comprehension-iter-twice" false) := by unfold Ran; kernel_rfl
theorem ran_tt (w : World) : Ran ((w.withFollow "special-get-raises" true).withFollow "comprehension-iter-twice" true) := by unfold Ran; kernel_rfl
theorem ran (w : World) : Ran w :=
  byRow2 "comprehension-iter-twice" (P := Ran) (fun w => byRow2 "special-get-raises" (P := fun w => Ran (w.withFollow "comprehension-iter-twice" false)) ran_ff ran_tf w)
    (fun w => byRow2 "special-get-raises" (P := fun w => Ran (w.withFollow "comprehension-iter-twice" true)) ran_ft ran_tt w) w
theorem well_list {P : Params} {h : Heap} {a : Addr} {ns : List Int} (x : Well P h (.ref a) (ofPy (PyData.list (ns.map PyData.int)))) {us : List Value} (hL : h.IsList a us.toArray) : h.get? a = some (listObj us 0) := by
  have e : ofPy (PyData.list (ns.map PyData.int)) = .list (ofPys (ns.map PyData.int)) := by rw [ofPy]
  rw [e] at x
  cases x with
  | list h1 _ =>
    obtain ⟨o, h2, _, n, h3⟩ := hL
    rw [h1] at h2
    cases h2
    simp only [Data.seq.injEq] at h3
    rw [h1]
    have := congrArg Array.toList h3.1
    simp only at this
    rw [this]
theorem hh : PySem.Challenge.rw_il0112_02.Holds := by
  w_on
  refine holds_law said fun said => ?_
  refine holds_open (q := view) (d := dK.1) (kwd := dK.2) (loose := loose) (Xt := fun s => xlAt view [] s && recOk (RowW.records PySem.Challenge.rw_il0112_02.row.toRowW) s) (XP := XL view []) (Yf := Hook.obs hook) (Ya := Hook.val hook) (YP := Hook.says hook) (N := 6392) ?hl (Hook.of hook) (Hook.keeps hook) (fun s e => xl_of s (Bool.and_eq_true_iff.mp e).1) XL.keeps (by kernel_rfl) (by kernel_rfl) (by kernel_rfl) (fun s e => recFacts_of (Bool.and_eq_true_iff.mp e).2) (by rfl) said (by kernel_rfl) ⟨rfl, rfl, rfl, rfl, rfl, by decide +kernel⟩ ?hw ?hc
  case hw => w_witness2
  case hl => exact LeftO.ofX ran
  case hc =>
    intro w s₀ s₁ mg mb G Y fa o pm cd doc dV kV ho hd hcd hD hmg hg args vals as hpre hlay hrd hwl hlo
    refine Ground.open G ?_
    intro T B D TE TW
    clear hmg
    wrow_args hpre hlay hrd hwl hlo
    all_goals (
      refine enter_call ?_
      w_top on
      refine codeAny_mono ?_ (fun _ _ g => GoodW.toG g)
      w_call any ho hd hcd hD T F
      clear hd)
    have T := ‹Top view _ _ mg mb s₁.heap›
    have e : execs dK.1.body = execs f_law.body := by kernel_rfl
    rw [e]
    refine law_walk Y hg T.g T.b T.nolimit (by obtain ⟨h0, h1, h2, _⟩ := Y; exact seer_ok h1 h2 T.g T.b T.builtins T.bmain) (by assumption) (well_list (by assumption) (by assumption)) (by assumption) (by assumption) (by kernel_rfl) (Nat.lt_succ_self _)
end
end
end Mine

theorem PySem.Challenge.cw_il0112_02_holds : PySem.Challenge.rw_il0112_02.Holds :=
  Mine.hh
