import PyProof.Rows.All
import Wide.All
import OpenK.AllK
import Wide.FinOn
import Lean
import PySem.Challenge.RW_pe0262_03
set_option Elab.async false
set_option genSizeOf false
set_option genInjectivity false
set_option linter.all false
set_option bootstrap.genMatcherCode false
noncomputable section
section
open PySem PySem.W PyProof.Rows
set_option Elab.async false
set_option maxRecDepth 100000
namespace Mine
inductive BI where
  | len | min | max | abs | sorted | str
  deriving DecidableEq
noncomputable def BI.id : BI → String
  | .len => "len" | .min => "min" | .max => "max" | .abs => "abs" | .sorted => "sorted" | .str => "str"
noncomputable def BI.name (b : BI) : Str := Str.ofString b.id
inductive ME where
  | lower | startswith | endswith | find | split | join
  deriving DecidableEq
noncomputable def ME.word : ME → String
  | .lower => "lower" | .startswith => "startswith" | .endswith => "endswith" | .find => "find" | .split => "split" | .join => "join"
noncomputable def ME.name (m : ME) : Str := Str.ofString m.word
noncomputable def ME.id : ME → String
  | .lower => "str.lower" | .startswith => "str.startswith" | .endswith => "str.endswith" | .find => "str.find" | .split => "str.split" | .join => "str.join"
inductive Tgt where
  | one (x : Str) (i : Nat) (p : Pos)
  | tup (xs : List (Str × Nat × Pos)) (k : Nat) (p : Pos)
noncomputable def Tgt.ast : Tgt → Expr
  | .one x _ p => .Name x p
  | .tup xs k p => .Tuple (xs.map fun x => .Name x.1 x.2.2) k p
mutual
inductive IE where
  | int (i : Int) (k : Nat) (p : Pos)
  | str (x : Str) (k : Nat) (p : Pos)
  | bool (b : Bool) (k : Nat) (p : Pos)
  | none (k : Nat) (p : Pos)
  | var (x : Str) (i : Nat) (p : Pos)
  | glob (x : Str) (d : PyData) (p : Pos)
  | bin (op : Operator) (a b : IE) (p : Pos)
  | neg (a : IE) (p : Pos)
  | not (a : IE) (p : Pos)
  | cmp (op : CmpOp) (a b : IE) (p : Pos)
  | boolop (op : BoolOp) (es : IEs) (p : Pos)
  | ifexp (t b o : IE) (p : Pos)
  | callF (f : Nat) (x : Str) (px : Pos) (es : IEs) (p : Pos)
  | callB (b : BI) (px : Pos) (es : IEs) (p : Pos)
  | listOf (px : Pos) (it : IT) (p : Pos)
  | meth (m : ME) (o : IE) (ap : Pos) (es : IEs) (p : Pos)
  | sub (a i : IE) (p : Pos)
  | slc (a : IE) (lo hi st : OIE) (ps p : Pos)
  | lst (es : IEs) (p : Pos)
  | tup (es : IEs) (k : Nat) (p : Pos)
  | comp (elt : IE) (t : Tgt) (it : IT) (ifs : IEs) (sc : Scope) (sm : List (Str × Nat)) (p : Pos)
  | comp2 (elt : IE) (t : Tgt) (it : IT) (t2 : Tgt) (it2 : IT) (sc : Scope) (sm : List (Str × Nat)) (p : Pos)
  | hmeth (m x : Str) (i : Nat) (px ap : Pos) (es : IEs) (p : Pos)
  | hlist (c : Nat) (x : Str) (i : Nat) (px p : Pos)
  | conv (x : Str) (i : Nat) (px ap : Pos) (e : IE) (nm : Bool) (kc : Nat) (pc pk p : Pos)
inductive IEs where
  | nil
  | cons (e : IE) (es : IEs)
inductive OIE where
  | none
  | some (e : IE)
inductive IT where
  | e (e : IE)
  | range (px : Pos) (es : IEs) (p : Pos)
  | v (e : IE)
end
mutual
noncomputable def IE.ast : IE → Expr
  | .int i k p => .Constant (.int i) k p
  | .str x k p => .Constant (.str x) k p
  | .bool b k p => .Constant (.bool b) k p
  | .none k p => .Constant .none k p
  | .var x _ p => .Name x p
  | .glob x _ p => .Name x p
  | .bin op a b p => .BinOp a.ast op b.ast p
  | .neg a p => .UnaryOp .USub a.ast p
  | .not a p => .UnaryOp .Not a.ast p
  | .cmp op a b p => .Compare a.ast [op] [b.ast] p
  | .boolop op es p => .BoolOp op es.ast p
  | .ifexp t b o p => .IfExp t.ast b.ast o.ast p
  | .callF _ x px es p => .Call (.Name x px) es.ast [] p
  | .callB b px es p => .Call (.Name b.name px) es.ast [] p
  | .listOf px it p => .Call (.Name "list" px) [it.ast] [] p
  | .meth m o ap es p => .Call (.Attribute o.ast m.name ap) es.ast [] p
  | .sub a i p => .Subscript a.ast i.ast p
  | .slc a lo hi st ps p => .Subscript a.ast (.Slice lo.ast hi.ast st.ast ps) p
  | .lst es p => .List es.ast p
  | .tup es k p => .Tuple es.ast k p
  | .comp elt t it ifs sc _ p => .ListComp elt.ast [⟨t.ast, it.ast, ifs.ast, 0⟩] sc p
  | .comp2 elt t it t2 it2 sc _ p => .ListComp elt.ast [⟨t.ast, it.ast, [], 0⟩, ⟨t2.ast, it2.ast, [], 0⟩] sc p
  | .hmeth m x _ px ap es p => .Call (.Attribute (.Name x px) m ap) es.ast [] p
  | .hlist _ x _ px p => .Attribute (.Name x px) "_headers" p
  | .conv x _ px ap e nm kc pc pk p => .Call (.Attribute (.Name x px) "_convert_string_type" ap) [e.ast] [⟨some "name", .Constant (.bool nm) kc pc, pk⟩] p
noncomputable def IEs.ast : IEs → List Expr
  | .nil => []
  | .cons e es => e.ast :: es.ast
noncomputable def OIE.ast : OIE → Option Expr
  | .none => .none
  | .some e => .some e.ast
noncomputable def IT.ast : IT → Expr
  | .e e => e.ast
  | .range px es p => .Call (.Name "range" px) es.ast [] p
  | .v e => e.ast
end
noncomputable def IT.isV : IT → Bool
  | .v _ => true
  | _ => false
inductive LV where
  | d (x : PyData)
  | ml (xs : List PyData)
  | hd (c : Nat) (ad : Option Nat) (kvs : List PyData)
  | hr (c : Nat) (kvs : List PyData)
  | ed
structure Hs where
  cls : Nat
  get : Str → List PyData → List PyData → Option PyData
  set : Str → List PyData → List PyData → Option (List PyData × PyData)
noncomputable abbrev Loc := List (Option LV)
noncomputable def Loc.at (σ : Loc) (i : Nat) : Option LV := match σ[i]? with
  | some x => x
  | none => none
noncomputable def Loc.put (σ : Loc) (i : Nat) (v : LV) : Loc := σ.set i (some v)
noncomputable def bigN : Nat := 4096
noncomputable def truth : PyData → Option Bool
  | .none => some false
  | .bool b => some b
  | .int i => some (i != 0)
  | .str x => if x.length ≤ bigN then some (x.length != 0) else none
  | .list xs => if xs.length ≤ bigN then some (xs.length != 0) else none
  | _ => none
noncomputable def smallI (i : Int) : Bool := decide (-(2 ^ 60) < i) && decide (i < 2 ^ 60)
noncomputable def addD : PyData → PyData → Option PyData
  | .int a, .int b => some (.int (a + b))
  | .str a, .str b => if a.length + b.length ≤ bigN then some (.str (a ++ b)) else none
  | .list a, .list b => if a.length + b.length ≤ bigN then some (.list (a ++ b)) else none
  | _, _ => none
noncomputable def onInts {α : Type} (f : Int → Int → Option α) : PyData → PyData → Option α
  | .int a, .int b => f a b
  | _, _ => none
noncomputable def binop : Operator → PyData → PyData → Option PyData
  | .Add, x, y => addD x y
  | .Sub, x, y => onInts (fun a b => some (.int (a - b))) x y
  | .Mult, x, y => onInts (fun a b => if smallI a && smallI b then some (.int (a * b)) else none) x y
  | .FloorDiv, x, y => onInts (fun a b => if b != 0 && decide (b.natAbs < 1000000) then some (.int (a.fdiv b)) else none) x y
  | .Mod, x, y => onInts (fun a b => if b != 0 then some (.int (a.fmod b)) else none) x y
  | .Pow, x, y => onInts (fun a b => if smallI a && decide (0 ≤ b) && decide (b ≤ 64) then some (.int (a ^ b.toNat)) else none) x y
  | .LShift, x, y => onInts (fun a b => if smallI a && decide (0 ≤ b) && decide (b ≤ 64) then some (.int (a * 2 ^ b.toNat)) else none) x y
  | .BitXor, x, y => onInts (fun a b => some (.int (Builtin.bitXor a b))) x y
  | _, _, _ => none
noncomputable def flatD : PyData → Bool
  | .none | .bool _ | .int _ | .str _ => true
  | _ => false
noncomputable def eqOk (a b : PyData) : Bool := SeqAt.shaped a && SeqAt.shaped b
noncomputable def isD : PyData → PyData → Option Bool
  | .none, .none => some true
  | .bool a, .bool b => some (a == b)
  | .bool _, .none => some false
  | .none, .bool _ => some false
  | .str _, .none => some false
  | _, _ => none
noncomputable def inD (a : PyData) : PyData → Option Bool
  | .list b => if SeqAt.shaped a && SeqAt.shaped (.list b) then some (b.any fun y => PyData.eqv y a) else none
  | .str b => match a with
    | .str a => some (Txt.contains b a)
    | _ => none
  | _ => none
noncomputable def cmpop : CmpOp → PyData → PyData → Option Bool
  | .Eq, a, b => if eqOk a b then some (PyData.eqv a b) else none
  | .NotEq, a, b => if eqOk a b then some (!PyData.eqv a b) else none
  | .Lt, x, y => onInts (fun a b => some (decide (a < b))) x y
  | .LtE, x, y => onInts (fun a b => some (decide (a ≤ b))) x y
  | .Gt, x, y => onInts (fun a b => some (decide (b < a))) x y
  | .GtE, x, y => onInts (fun a b => some (decide (b ≤ a))) x y
  | .Is, a, b => isD a b
  | .IsNot, a, b => (isD a b).map (!·)
  | .In, a, b => inD a b
  | .NotIn, a, b => (inD a b).map (!·)
noncomputable def chr1 (c : Nat) : PyData := .str ⟨#[c]⟩
noncomputable def getitem : PyData → PyData → Option PyData
  | .str x, .int i => if smallI i then ((seqIndex? i x.length).bind (x.cps[·]?)).map chr1 else none
  | .list xs, .int i => if smallI i then (seqIndex? i xs.length).bind (xs[·]?) else none
  | .tuple xs, .int i => if smallI i then (seqIndex? i xs.length).bind (xs[·]?) else none
  | _, _ => none
noncomputable def part : Option PyData → Option (Option Int)
  | none => some none
  | some .none => some none
  | some (.int i) => some (some i)
  | _ => none
noncomputable def pickL {α : Type} (xs : List α) (lo hi st : Option Int) : List α :=
  let (a, b, c) := sliceBounds lo hi st xs.length
  (sliceRange a b c).filterMap fun i => xs[i]?
noncomputable def slice : PyData → Option Int → Option Int → Option Int → Option PyData
  | .str x, lo, hi, none => if x.length ≤ bigN then some (.str (Txt.slice x lo hi)) else none
  | .list xs, lo, hi, st => if xs.length ≤ bigN && decide (st ≠ some 0) then some (.list (pickL xs lo hi st)) else none
  | _, _, _, _ => none
noncomputable def lenD : List PyData → Option PyData
  | [.str x] => if x.length ≤ bigN then some (.int x.length) else none
  | [.list x] => if x.length ≤ bigN then some (.int x.length) else none
  | _ => none
noncomputable def minD : List PyData → Option PyData
  | [.int a, .int b] => some (.int (if b < a then b else a))
  | _ => none
noncomputable def absD : List PyData → Option PyData
  | [.int a] => some (.int a.natAbs)
  | _ => none
noncomputable def callB : BI → List PyData → Option PyData
  | .len, xs => lenD xs
  | .min, xs => minD xs
  | .abs, xs => absD xs
  | _, _ => none
noncomputable def strsOf : List PyData → Option (List Str)
  | [] => some []
  | .str x :: r => (strsOf r).map (x :: ·)
  | _ :: _ => none
noncomputable def find4 (x y : Str) (i j : Int) : Int := match Builtin.Str.occurrences x y (fromIndex x.length i) (min (fromIndex x.length j) x.length) 1 with
  | k :: _ => (k : Int)
  | [] => -1
noncomputable def lowerD : PyData → List PyData → Option PyData
  | .str x, [] => if x.length ≤ bigN then some (.str (Txt.lower x)) else none
  | _, _ => none
noncomputable def strD (f : Str → Str → Option PyData) : PyData → List PyData → Option PyData
  | .str x, [.str y] => f x y
  | _, _ => none
noncomputable def findD : PyData → List PyData → Option PyData
  | .str x, [.str y, .int i, .int j] => some (.int (find4 x y i j))
  | _, _ => none
noncomputable def joinD : PyData → List PyData → Option PyData
  | .str x, [.list l] => match strsOf l with
    | some ts => if JoinOk x ts then some (.str (Txt.join x ts)) else none
    | none => none
  | _, _ => none
noncomputable def meth : ME → PyData → List PyData → Option PyData
  | .lower, a, xs => lowerD a xs
  | .startswith, a, xs => strD (fun x y => some (.bool (Txt.startswith x y))) a xs
  | .endswith, a, xs => strD (fun x y => some (.bool (Txt.endswith x y))) a xs
  | .find, a, xs => findD a xs
  | .split, a, xs => strD (fun x y => if x.length ≤ bigN && decide (0 < y.length) && decide ((Txt.split x y).length ≤ bigN) then some (.list ((Txt.split x y).map .str)) else none) a xs
  | .join, a, xs => joinD a xs
noncomputable def rangeL (a b c : Int) : Option (List PyData) :=
  if Builtin.Range.small a b c && decide (0 ≤ Builtin.Range.rangeSize a b c) && decide (Builtin.Range.rangeSize a b c ≤ bigN) && decide (c.natAbs < 1000000) && decide (c ≠ 0) then
    some ((List.range (Builtin.Range.rangeSize a b c).toNat).map fun (k : Nat) => PyData.int (a + (k : Int) * c))
  else none
noncomputable def rangeItems : List PyData → Option (List PyData)
  | [.int b] => rangeL 0 b 1
  | [.int a, .int b] => rangeL a b 1
  | [.int a, .int b, .int c] => rangeL a b c
  | _ => none
noncomputable def itemsOf : PyData → Option (List PyData)
  | .list xs => if xs.length ≤ bigN then some xs else none
  | .tuple xs => if xs.length ≤ bigN then some xs else none
  | .str x => if x.length ≤ bigN then some (x.cps.toList.map chr1) else none
  | _ => none
noncomputable def Tgt.names : Tgt → List (Str × Nat)
  | .one x i _ => [(x, i)]
  | .tup xs _ _ => xs.map fun x => (x.1, x.2.1)
noncomputable def Tgt.vals : Tgt → PyData → Option (List PyData)
  | .one .., d => some [d]
  | .tup xs _ _, .tuple ds => if ds.length = xs.length then some ds else none
  | .tup .., _ => none
noncomputable def putMany : List (Str × Nat) → List PyData → Loc → Loc
  | x :: r, d :: ds, σ => putMany r ds (σ.put x.2 (.d d))
  | _, _, σ => σ
noncomputable def Tgt.bind (t : Tgt) (v : PyData) (σ : Loc) : Option Loc := (t.vals v).map fun ds => putMany t.names ds σ
noncomputable def gather (f : PyData → Option (List PyData)) : List PyData → Option (List PyData)
  | [] => some []
  | v :: r => match f v with
    | none => none
    | some a => match gather f r with
      | none => none
      | some b => some (a ++ b)
noncomputable def Loc.hdr (σ : Loc) (i : Nat) (c : Nat) : Option (List PyData) := match σ.at i with
  | some (.hd c' _ kvs) => if c' == c then some kvs else none
  | some (.hr c' kvs) => if c' == c then some kvs else none
  | _ => none
noncomputable def view (e : IE) (σ : Loc) (r : Option PyData) : Option PyData := match e with
  | .var _ i _ => match σ.at i with
    | some (.ml xs) => some (.list xs)
    | _ => r
  | .hlist c _ i _ _ => (σ.hdr i c).map .list
  | _ => r
noncomputable def clr : List (Str × Nat) → Loc → Loc
  | [], σ => σ
  | x :: r, σ => clr r (σ.set x.2 none)
noncomputable def cleanS (x : Str) : Bool := decide (x.length ≤ bigN) && x.cps.toList.all fun c => decide (32 ≤ c) && decide (c < 127)
section
variable (Γ : Nat → List PyData → Option PyData)
variable (hG : Hs)
mutual
noncomputable def ev : IE → Loc → Option PyData
  | .int i _ _, _ => some (.int i)
  | .str x _ _, _ => some (.str x)
  | .bool b _ _, _ => some (.bool b)
  | .none _ _, _ => some .none
  | .var _ i _, σ => match σ.at i with
    | some (.d x) => some x
    | _ => none
  | .glob _ d _, _ => some d
  | .bin op a b _, σ => match view a σ (ev a σ) with
    | none => none
    | some x => match view b σ (ev b σ) with
      | none => none
      | some y => binop op x y
  | .neg a _, σ => match ev a σ with
    | some (.int i) => some (.int (-i))
    | _ => none
  | .not a _, σ => match view a σ (ev a σ) with
    | none => none
    | some x => (truth x).map fun b => .bool !b
  | .cmp op a b _, σ => match view a σ (ev a σ) with
    | none => none
    | some x => match view b σ (ev b σ) with
      | none => none
      | some y => (cmpop op x y).map .bool
  | .boolop op es _, σ => evB op es σ
  | .ifexp t b o _, σ => match view t σ (ev t σ) with
    | none => none
    | some x => match truth x with
      | none => none
      | some true => ev b σ
      | some false => ev o σ
  | .callF f _ _ es _, σ => match evs es σ with
    | none => none
    | some xs => Γ f xs
  | .callB b _ es _, σ => match evsV es σ with
    | none => none
    | some xs => callB b xs
  | .listOf _ it _, σ => match it with
    | .range _ es _ => match evs es σ with
      | none => none
      | some xs => (rangeItems xs).map .list
    | .e e => match ev e σ with
      | some (.str x) => if x.length ≤ bigN then some (.list (x.cps.toList.map chr1)) else none
      | _ => none
    | .v _ => none
  | .meth m o _ es _, σ => match ev o σ with
    | none => none
    | some x => match evsV es σ with
      | none => none
      | some xs => meth m x xs
  | .sub a i _, σ => match view a σ (ev a σ) with
    | none => none
    | some x => match ev i σ with
      | none => none
      | some y => getitem x y
  | .slc a lo hi st _ _, σ => match view a σ (ev a σ) with
    | none => none
    | some x => match evo lo σ, evo hi σ, evo st σ with
      | some l, some h, some s => slice x l h s
      | _, _, _ => none
  | .lst es _, σ => match evs es σ with
    | none => none
    | some xs => if xs.length ≤ bigN then some (.list xs) else none
  | .tup es _ _, σ => match evs es σ with
    | none => none
    | some xs => if xs.length ≤ bigN then some (.tuple xs) else none
  | .comp elt t it ifs _ _ _, σ => match evit it σ with
    | none => none
    | some xs => (gather (fun v => match t.bind v (clr t.names σ) with
        | none => none
        | some σ' => match evIfs ifs σ' with
          | none => none
          | some false => some []
          | some true => (ev elt σ').map fun x => [x]) xs).map .list
  | .comp2 elt t it t2 it2 _ _ _, σ => match evit it σ with
    | none => none
    | some xs => (gather (fun v => match t.bind v (clr (t.names ++ t2.names) σ) with
        | none => none
        | some σ' => match evit it2 σ' with
          | none => none
          | some ys => gather (fun u => match t2.bind u σ' with
            | none => none
            | some σ'' => (ev elt σ'').map fun x => [x]) ys) xs).bind fun ds => if ds.length ≤ bigN then some (.list ds) else none
  | .hmeth m _ i _ _ es _, σ => match σ.hdr i hG.cls with
    | none => none
    | some kvs => match evs es σ with
      | none => none
      | some xs => hG.get m kvs xs
  | .hlist .., _ => none
  | .conv _ i _ _ e _ _ _ _ _, σ => match σ.hdr i hG.cls with
    | none => none
    | some _ => match ev e σ with
      | some (.str x) => if cleanS x then some (.str x) else none
      | _ => none
noncomputable def evs : IEs → Loc → Option (List PyData)
  | .nil, _ => some []
  | .cons e es, σ => match ev e σ with
    | none => none
    | some x => match evs es σ with
      | none => none
      | some xs => some (x :: xs)
noncomputable def evsV : IEs → Loc → Option (List PyData)
  | .nil, _ => some []
  | .cons e es, σ => match view e σ (ev e σ) with
    | none => none
    | some x => match evsV es σ with
      | none => none
      | some xs => some (x :: xs)
noncomputable def evo : OIE → Loc → Option (Option Int)
  | .none, _ => some none
  | .some e, σ => match ev e σ with
    | none => none
    | some x => part (some x)
noncomputable def evit : IT → Loc → Option (List PyData)
  | .e e, σ => match ev e σ with
    | none => none
    | some x => itemsOf x
  | .range _ es _, σ => match evs es σ with
    | none => none
    | some xs => rangeItems xs
  | .v e, σ => match view e σ (ev e σ) with
    | none => none
    | some x => itemsOf x
noncomputable def evB : BoolOp → IEs → Loc → Option PyData
  | _, .nil, _ => none
  | op, .cons e es, σ => match ev e σ with
    | none => none
    | some x => match es with
      | .nil => some x
      | .cons _ _ => match truth x with
        | none => none
        | some b => match op, b with
          | .And, false => some x
          | .Or, true => some x
          | _, _ => evB op es σ
noncomputable def evIfs : IEs → Loc → Option Bool
  | .nil, _ => some true
  | .cons e es, σ => match view e σ (ev e σ) with
    | none => none
    | some x => match truth x with
      | none => none
      | some true => evIfs es σ
      | some false => some false
end
end
-- equations
section
variable {Γ : Nat → List PyData → Option PyData} {hG : Hs}
theorem ev_e0 {i x1_ x2_ x3_} : ev Γ hG (.int i x1_ x2_) x3_ = (some (.int i)) := rfl
theorem ev_e1 {x x1_ x2_ x3_} : ev Γ hG (.str x x1_ x2_) x3_ = (some (.str x)) := rfl
theorem ev_e2 {b x1_ x2_ x3_} : ev Γ hG (.bool b x1_ x2_) x3_ = (some (.bool b)) := rfl
theorem ev_e3 {x1_ x2_ x3_} : ev Γ hG (.none x1_ x2_) x3_ = (some .none) := rfl
theorem ev_e4 {x1_ i x2_ σ} : ev Γ hG (.var x1_ i x2_) σ = (match σ.at i with
    | some (.d x) => some x
    | _ => none) := rfl
theorem ev_e5 {x1_ d x2_ x3_} : ev Γ hG (.glob x1_ d x2_) x3_ = (some d) := rfl
theorem ev_e6 {op a b x1_ σ} : ev Γ hG (.bin op a b x1_) σ = (match view a σ (ev Γ hG a σ) with
    | none => none
    | some x => match view b σ (ev Γ hG b σ) with
      | none => none
      | some y => binop op x y) := rfl
theorem ev_e7 {a x1_ σ} : ev Γ hG (.neg a x1_) σ = (match ev Γ hG a σ with
    | some (.int i) => some (.int (-i))
    | _ => none) := rfl
theorem ev_e8 {a x1_ σ} : ev Γ hG (.not a x1_) σ = (match view a σ (ev Γ hG a σ) with
    | none => none
    | some x => (truth x).map fun b => .bool !b) := rfl
theorem ev_e9 {op a b x1_ σ} : ev Γ hG (.cmp op a b x1_) σ = (match view a σ (ev Γ hG a σ) with
    | none => none
    | some x => match view b σ (ev Γ hG b σ) with
      | none => none
      | some y => (cmpop op x y).map .bool) := rfl
theorem ev_e10 {op es x1_ σ} : ev Γ hG (.boolop op es x1_) σ = (evB Γ hG op es σ) := rfl
theorem ev_e11 {t b o x1_ σ} : ev Γ hG (.ifexp t b o x1_) σ = (match view t σ (ev Γ hG t σ) with
    | none => none
    | some x => match truth x with
      | none => none
      | some true => ev Γ hG b σ
      | some false => ev Γ hG o σ) := rfl
theorem ev_e12 {f x1_ x2_ es x3_ σ} : ev Γ hG (.callF f x1_ x2_ es x3_) σ = (match evs Γ hG es σ with
    | none => none
    | some xs => Γ f xs) := rfl
theorem ev_e13 {b x1_ es x2_ σ} : ev Γ hG (.callB b x1_ es x2_) σ = (match evsV Γ hG es σ with
    | none => none
    | some xs => callB b xs) := rfl
theorem ev_e14 {x1_ it x2_ σ} : ev Γ hG (.listOf x1_ it x2_) σ = (match it with
    | .range _ es _ => match evs Γ hG es σ with
      | none => none
      | some xs => (rangeItems xs).map .list
    | .e e => match ev Γ hG e σ with
      | some (.str x) => if x.length ≤ bigN then some (.list (x.cps.toList.map chr1)) else none
      | _ => none
    | .v _ => none) := by cases it <;> rfl
theorem ev_e15 {m o x1_ es x2_ σ} : ev Γ hG (.meth m o x1_ es x2_) σ = (match ev Γ hG o σ with
    | none => none
    | some x => match evsV Γ hG es σ with
      | none => none
      | some xs => meth m x xs) := rfl
theorem ev_e16 {a i x1_ σ} : ev Γ hG (.sub a i x1_) σ = (match view a σ (ev Γ hG a σ) with
    | none => none
    | some x => match ev Γ hG i σ with
      | none => none
      | some y => getitem x y) := rfl
theorem ev_e17 {a lo hi st x1_ x2_ σ} : ev Γ hG (.slc a lo hi st x1_ x2_) σ = (match view a σ (ev Γ hG a σ) with
    | none => none
    | some x => match evo Γ hG lo σ, evo Γ hG hi σ, evo Γ hG st σ with
      | some l, some h, some s => slice x l h s
      | _, _, _ => none) := rfl
theorem ev_e18 {es x1_ σ} : ev Γ hG (.lst es x1_) σ = (match evs Γ hG es σ with
    | none => none
    | some xs => if xs.length ≤ bigN then some (.list xs) else none) := rfl
theorem ev_e19 {es x1_ x2_ σ} : ev Γ hG (.tup es x1_ x2_) σ = (match evs Γ hG es σ with
    | none => none
    | some xs => if xs.length ≤ bigN then some (.tuple xs) else none) := rfl
theorem ev_e20 {elt t it ifs x1_ x2_ x3_ σ} : ev Γ hG (.comp elt t it ifs x1_ x2_ x3_) σ = (match evit Γ hG it σ with
    | none => none
    | some xs => (gather (fun v => match t.bind v (clr t.names σ) with
        | none => none
        | some σ' => match evIfs Γ hG ifs σ' with
          | none => none
          | some false => some []
          | some true => (ev Γ hG elt σ').map fun x => [x]) xs).map .list) := rfl
theorem ev_e21 {elt t it t2 it2 x1_ x2_ x3_ σ} : ev Γ hG (.comp2 elt t it t2 it2 x1_ x2_ x3_) σ = (match evit Γ hG it σ with
    | none => none
    | some xs => (gather (fun v => match t.bind v (clr (t.names ++ t2.names) σ) with
        | none => none
        | some σ' => match evit Γ hG it2 σ' with
          | none => none
          | some ys => gather (fun u => match t2.bind u σ' with
            | none => none
            | some σ'' => (ev Γ hG elt σ'').map fun x => [x]) ys) xs).bind fun ds => if ds.length ≤ bigN then some (.list ds) else none) := rfl
theorem ev_e22 {m x1_ i x2_ x3_ es x4_ σ} : ev Γ hG (.hmeth m x1_ i x2_ x3_ es x4_) σ = (match σ.hdr i hG.cls with
    | none => none
    | some kvs => match evs Γ hG es σ with
      | none => none
      | some xs => hG.get m kvs xs) := rfl
theorem ev_e24 {x1_ i x2_ x3_ e x4_ x5_ x6_ x7_ x8_ σ} : ev Γ hG (.conv x1_ i x2_ x3_ e x4_ x5_ x6_ x7_ x8_) σ = (match σ.hdr i hG.cls with
    | none => none
    | some _ => match ev Γ hG e σ with
      | some (.str x) => if cleanS x then some (.str x) else none
      | _ => none) := rfl
theorem evs_e0 {x1_} : evs Γ hG (.nil) x1_ = (some []) := rfl
theorem evs_e1 {e es σ} : evs Γ hG (.cons e es) σ = (match ev Γ hG e σ with
    | none => none
    | some x => match evs Γ hG es σ with
      | none => none
      | some xs => some (x :: xs)) := rfl
theorem evsV_e0 {x1_} : evsV Γ hG (.nil) x1_ = (some []) := rfl
theorem evsV_e1 {e es σ} : evsV Γ hG (.cons e es) σ = (match view e σ (ev Γ hG e σ) with
    | none => none
    | some x => match evsV Γ hG es σ with
      | none => none
      | some xs => some (x :: xs)) := rfl
theorem evo_e0 {x1_} : evo Γ hG (.none) x1_ = (some none) := rfl
theorem evo_e1 {e σ} : evo Γ hG (.some e) σ = (match ev Γ hG e σ with
    | none => none
    | some x => part (some x)) := rfl
theorem evit_e0 {e σ} : evit Γ hG (.e e) σ = (match ev Γ hG e σ with
    | none => none
    | some x => itemsOf x) := rfl
theorem evit_e1 {x1_ es x2_ σ} : evit Γ hG (.range x1_ es x2_) σ = (match evs Γ hG es σ with
    | none => none
    | some xs => rangeItems xs) := rfl
theorem evit_e2 {e σ} : evit Γ hG (.v e) σ = (match view e σ (ev Γ hG e σ) with
    | none => none
    | some x => itemsOf x) := rfl
theorem evB_e0 {x1_ x2_} : evB Γ hG x1_ (.nil) x2_ = (none) := rfl
theorem evB_e1 {op e es σ} : evB Γ hG op (.cons e es) σ = (match ev Γ hG e σ with
    | none => none
    | some x => match es with
      | .nil => some x
      | .cons _ _ => match truth x with
        | none => none
        | some b => match op, b with
          | .And, false => some x
          | .Or, true => some x
          | _, _ => evB Γ hG op es σ) := rfl
theorem evIfs_e0 {x1_} : evIfs Γ hG (.nil) x1_ = (some true) := rfl
theorem evIfs_e1 {e es σ} : evIfs Γ hG (.cons e es) σ = (match view e σ (ev Γ hG e σ) with
    | none => none
    | some x => match truth x with
      | none => none
      | some true => evIfs Γ hG es σ
      | some false => some false) := rfl
end
-- equations end
end Mine
end
section
open PySem PySem.W PyProof.Rows
set_option Elab.async false
set_option maxRecDepth 100000
namespace Mine
noncomputable abbrev NoE : Value → Shared → Prop := fun _ _ => False
noncomputable def Ext (h h' : Heap) : Prop := ∀ b o, h.get? b = some o → h'.get? b = some o
theorem Ext.refl (h : Heap) : Ext h h := fun _ _ e => e
theorem Ext.trans {h h' h'' : Heap} (a : Ext h h') (b : Ext h' h'') : Ext h h'' := fun x o e => b x o (a x o e)
theorem Ext.push (h : Heap) (o : Obj) : Ext h (h.push o) := fun _ _ e => Heap.get?_push_of_some _ e
noncomputable abbrev Kp (s s' : Shared) : Prop := Keeps s s'
theorem Kp.refl (s : Shared) : Kp s s := ⟨_, _, rfl, Ext.refl _⟩
theorem Kp.trans {a b c : Shared} (x : Kp a b) (y : Kp b c) : Kp a c := by
  obtain ⟨h, t, rfl, e⟩ := x
  obtain ⟨h', t', rfl, e'⟩ := y
  exact ⟨h', t', rfl, Ext.trans e e'⟩
theorem Kp.ext {a b : Shared} (x : Kp a b) : Ext a.heap b.heap := by
  obtain ⟨h, t, rfl, e⟩ := x
  exact e
theorem Kp.toks (s : Shared) (t : Nat) : Kp s { s with toks := t } := ⟨_, _, rfl, Ext.refl _⟩
theorem Kp.push (s : Shared) (o : Obj) : Kp s { s with heap := s.heap.push o } := ⟨_, _, rfl, Ext.push _ _⟩
theorem get_size_none (h : Heap) : h.get? h.objs.size = none := by
  cases e : h.get? h.objs.size with
  | none => rfl
  | some o => exact absurd (Heap.lt_size e) (Nat.lt_irrefl _)
mutual
noncomputable def RV (P : Addr → Prop) (h : Heap) : PyData → Value → Prop
  | .none, v => v = .none
  | .bool b, v => v = .bool b
  | .int i, v => ∃ t, v = .int i t
  | .str x, v => ∃ t, v = .str x t
  | .list xs, v => ∃ a vs, v = .ref a ∧ P a ∧ h.IsList a (List.toArray vs) ∧ RVs P h xs vs
  | .tuple xs, v => ∃ a vs, v = .ref a ∧ P a ∧ IsTup h a (List.toArray vs) ∧ RVs P h xs vs
  | .dict _, _ => False
noncomputable def RVs (P : Addr → Prop) (h : Heap) : List PyData → List Value → Prop
  | [], vs => vs = []
  | d :: ds, vs => ∃ v r, vs = v :: r ∧ RV P h d v ∧ RVs P h ds r
end
noncomputable def RW (P : Addr → Prop) (h : Heap) (d : PyData) (v : Value) : Prop := match d with
  | .list xs => ∃ a vs, v = .ref a ∧ h.IsList a (List.toArray vs) ∧ RVs P h xs vs
  | d => RV P h d v
variable {P P' : Addr → Prop} {h h' : Heap} {d : PyData} {v : Value}
mutual
theorem RV.map (e : ∀ a o, P a → h.get? a = some o → P' a ∧ h'.get? a = some o) : ∀ {d : PyData} {v : Value}, RV P h d v → RV P' h' d v
  | .none, _, x => x
  | .bool _, _, x => x
  | .int _, _, x => x
  | .str _, _, x => x
  | .list _, _, x => by
    obtain ⟨a, vs, rfl, p, ⟨o, h1, h2⟩, r⟩ := x
    exact ⟨a, vs, rfl, (e a o p h1).1, ⟨o, (e a o p h1).2, h2⟩, RVs.map e r⟩
  | .tuple _, _, x => by
    obtain ⟨a, vs, rfl, p, ⟨o, h1, h2⟩, r⟩ := x
    exact ⟨a, vs, rfl, (e a o p h1).1, ⟨o, (e a o p h1).2, h2⟩, RVs.map e r⟩
  | .dict _, _, x => x
theorem RVs.map (e : ∀ a o, P a → h.get? a = some o → P' a ∧ h'.get? a = some o) : ∀ {ds : List PyData} {vs : List Value}, RVs P h ds vs → RVs P' h' ds vs
  | [], _, x => x
  | _ :: _, _, x => by
    obtain ⟨v, r, rfl, a, b⟩ := x
    exact ⟨v, r, rfl, RV.map e a, RVs.map e b⟩
end
theorem RV.keeps (x : RV P h d v) (e : Ext h h') : RV P h' d v := x.map fun a o p q => ⟨p, e a o q⟩
theorem RVs.keeps {ds : List PyData} {vs : List Value} (x : RVs P h ds vs) (e : Ext h h') : RVs P h' ds vs := x.map fun a o p q => ⟨p, e a o q⟩
theorem RV.mono (x : RV P h d v) (e : ∀ a, P a → P' a) : RV P' h d v := x.map fun a o p q => ⟨e a p, q⟩
theorem RVs.mono {ds : List PyData} {vs : List Value} (x : RVs P h ds vs) (e : ∀ a, P a → P' a) : RVs P' h ds vs := x.map fun a o p q => ⟨e a p, q⟩
mutual
theorem RV.reads : ∀ {d : PyData} {v : Value}, RV P h d v → ∃ as, Reads h v d as
  | .none, _, x => by cases x; exact ⟨_, .none⟩
  | .bool _, _, x => by cases x; exact ⟨_, .bool _⟩
  | .int _, _, x => by obtain ⟨t, rfl⟩ := x; exact ⟨_, .int _ _⟩
  | .str _, _, x => by obtain ⟨t, rfl⟩ := x; exact ⟨_, .str _ _⟩
  | .list _, _, x => by
    obtain ⟨a, vs, rfl, p, ⟨o, h1, h2, n, h3⟩, r⟩ := x
    obtain ⟨as, q⟩ := RVs.reads r
    exact ⟨_, .list h1 h2 h3 (by simpa using q)⟩
  | .tuple _, _, x => by
    obtain ⟨a, vs, rfl, p, ⟨o, h1, h2, n, h3⟩, r⟩ := x
    obtain ⟨as, q⟩ := RVs.reads r
    exact ⟨_, .tuple h1 h2 h3 (by simpa using q)⟩
  | .dict _, _, x => x.elim
theorem RVs.reads : ∀ {ds : List PyData} {vs : List Value}, RVs P h ds vs → ∃ as, ReadsAll h vs ds as
  | [], _, x => by cases x; exact ⟨_, .nil⟩
  | _ :: _, _, x => by
    obtain ⟨v, r, rfl, a, b⟩ := x
    obtain ⟨as, q⟩ := RV.reads a
    obtain ⟨bs, q'⟩ := RVs.reads b
    exact ⟨_, .cons q q'⟩
end
theorem RV.none : RV P h .none .none := rfl
theorem RV.bool (b : Bool) : RV P h (.bool b) (.bool b) := rfl
theorem RV.int (i : Int) (t : Tok) : RV P h (.int i) (.int i t) := ⟨t, rfl⟩
theorem RV.str (x : Str) (t : Tok) : RV P h (.str x) (.str x t) := ⟨t, rfl⟩
theorem RV.inv_none (x : RV P h .none v) : v = .none := x
theorem RV.inv_bool {b : Bool} (x : RV P h (.bool b) v) : v = .bool b := x
theorem RV.inv_int {i : Int} (x : RV P h (.int i) v) : ∃ t, v = .int i t := x
theorem RV.inv_str {i : Str} (x : RV P h (.str i) v) : ∃ t, v = .str i t := x
theorem RVs.nil : RVs P h [] [] := rfl
theorem RVs.cons {ds : List PyData} {vs : List Value} (x : RV P h d v) (y : RVs P h ds vs) : RVs P h (d :: ds) (v :: vs) := ⟨v, vs, rfl, x, y⟩
theorem RVs.inv_nil {vs : List Value} (x : RVs P h [] vs) : vs = [] := x
theorem RVs.inv_cons {ds : List PyData} {vs : List Value} (x : RVs P h (d :: ds) vs) : ∃ v r, vs = v :: r ∧ RV P h d v ∧ RVs P h ds r := x
theorem RVs.length : ∀ {ds : List PyData} {vs : List Value}, RVs P h ds vs → vs.length = ds.length
  | [], _, x => by simp [x.inv_nil]
  | _ :: _, _, x => by
    obtain ⟨v, r, rfl, _, y⟩ := x.inv_cons
    simp [y.length]
theorem RVs.get : ∀ {ds : List PyData} {vs : List Value}, RVs P h ds vs → ∀ {i : Nat} {d : PyData}, ds[i]? = some d → ∃ v, vs[i]? = some v ∧ RV P h d v
  | [], _, _, i, _, e => by simp at e
  | _ :: _, _, x, 0, _, e => by
    obtain ⟨v, r, rfl, y, _⟩ := x.inv_cons
    simp at e; subst e
    exact ⟨v, rfl, y⟩
  | _ :: _, _, x, i + 1, _, e => by
    obtain ⟨v, r, rfl, _, y⟩ := x.inv_cons
    have := y.get (i := i) (by simpa using e)
    simpa using this
theorem RVs.get' {ds : List PyData} {vs : List Value} (x : RVs P h ds vs) {i : Nat} {v : Value} (e : vs[i]? = some v) : ∃ d, ds[i]? = some d ∧ RV P h d v := by
  have hl : i < vs.length := (List.getElem?_eq_some_iff.mp e).1
  rw [x.length] at hl
  obtain ⟨v', e', r⟩ := x.get (i := i) (d := ds[i]) (by simp [hl])
  rw [e] at e'; cases e'
  exact ⟨_, by simp [hl], r⟩
theorem RVs.append : ∀ {ds es : List PyData} {vs ws : List Value}, RVs P h ds vs → RVs P h es ws → RVs P h (ds ++ es) (vs ++ ws)
  | [], _, _, _, x, y => by rw [x.inv_nil]; exact y
  | _ :: _, _, _, _, x, y => by
    obtain ⟨v, r, rfl, a, b⟩ := x.inv_cons
    exact RVs.cons a (b.append y)
theorem RVs.filterMap {ds : List PyData} {vs : List Value} (x : RVs P h ds vs) : ∀ (is : List Nat), RVs P h (is.filterMap fun i => ds[i]?) (is.filterMap fun i => vs[i]?)
  | [] => RVs.nil
  | i :: is => by
    have ih := RVs.filterMap x is
    cases e : ds[i]? with
    | none =>
      have : vs[i]? = none := by
        rw [List.getElem?_eq_none_iff] at e ⊢
        rw [x.length]; exact e
      simp only [List.filterMap_cons, e, this]; exact ih
    | some d =>
      obtain ⟨v, e', r⟩ := x.get e
      simp only [List.filterMap_cons, e, e']; exact RVs.cons r ih
theorem RV.inv_list {xs : List PyData} (x : RV P h (.list xs) v) : ∃ a vs, v = .ref a ∧ P a ∧ h.IsList a (List.toArray vs) ∧ RVs P h xs vs := x
theorem RV.inv_tuple {xs : List PyData} (x : RV P h (.tuple xs) v) : ∃ a vs, v = .ref a ∧ P a ∧ IsTup h a (List.toArray vs) ∧ RVs P h xs vs := x
theorem RV.list {xs : List PyData} {a : Addr} {vs : List Value} (hp : P a) (hl : h.IsList a vs.toArray) (x : RVs P h xs vs) : RV P h (.list xs) (.ref a) := ⟨a, vs, rfl, hp, hl, x⟩
theorem RV.tuple {xs : List PyData} {a : Addr} {vs : List Value} (hp : P a) (hl : IsTup h a vs.toArray) (x : RVs P h xs vs) : RV P h (.tuple xs) (.ref a) := ⟨a, vs, rfl, hp, hl, x⟩
theorem RV.newList {xs : List PyData} {vs : List Value} {n : Nat} (hP : P h.objs.size) (x : RVs P h xs vs) : RV P (h.push { cls := .type "list", data := .seq vs.toArray n }) (.list xs) (.ref h.objs.size) :=
  RV.list hP ⟨_, Heap.get?_push_size _ rfl, rfl, n, rfl⟩ (x.keeps (Ext.push _ _))
theorem RV.newTuple {xs : List PyData} {vs : List Value} {n : Nat} (hP : P h.objs.size) (x : RVs P h xs vs) : RV P (h.push { cls := .type "tuple", data := .seq vs.toArray n }) (.tuple xs) (.ref h.objs.size) :=
  RV.tuple hP ⟨_, Heap.get?_push_size _ rfl, rfl, n, rfl⟩ (x.keeps (Ext.push _ _))
theorem RW.inv_none (x : RW P h .none v) : v = .none := x
theorem RW.inv_bool {b : Bool} (x : RW P h (.bool b) v) : v = .bool b := x
theorem RW.inv_int {i : Int} (x : RW P h (.int i) v) : ∃ t, v = .int i t := x
theorem RW.inv_str {i : Str} (x : RW P h (.str i) v) : ∃ t, v = .str i t := x
theorem RW.inv_tuple {xs : List PyData} (x : RW P h (.tuple xs) v) : ∃ a vs, v = .ref a ∧ P a ∧ IsTup h a (List.toArray vs) ∧ RVs P h xs vs := x
theorem RV.toRW (x : RV P h d v) : RW P h d v := by
  cases d with
  | list xs => obtain ⟨a, vs, e, _, l, r⟩ := x.inv_list; exact ⟨a, vs, e, l, r⟩
  | _ => exact x
theorem RW.reads (x : RW P h d v) : ∃ as, Reads h v d as := by
  cases d with
  | list xs =>
    obtain ⟨a, vs, rfl, ⟨o, h1, h2, n, h3⟩, r⟩ := x
    obtain ⟨as, q⟩ := r.reads
    exact ⟨a :: as, .list h1 h2 h3 (by simpa using q)⟩
  | _ => exact RV.reads (P := P) x
theorem RW.keeps (x : RW P h d v) (e : Ext h h') : RW P h' d v := by
  cases d with
  | list xs =>
    obtain ⟨a, vs, rfl, ⟨o, h1, h2⟩, r⟩ := x
    exact ⟨a, vs, rfl, ⟨o, e _ _ h1, h2⟩, r.keeps e⟩
  | _ => exact RV.keeps x e
structure Room (A : Around) (k : Nat) : Prop where
  depth : A.depth + k ≤ 900
  units : A.units + 20 * k ≤ 9000
  handled : A.handled = none
theorem Room.le {A : Around} {k j : Nat} (r : Room A k) (h : j ≤ k) : Room A j := ⟨Nat.le_trans (Nat.add_le_add_left h _) r.depth, by have := r.units; omega, r.handled⟩
noncomputable def Fresh (P : Addr → Prop) (h : Heap) : Prop := ∀ a, h.get? a = none → P a
theorem Fresh.ext (x : Fresh P h) (e : Ext h h') : Fresh P h' := fun a ha => x a (by
  cases q : h.get? a with
  | none => rfl
  | some o => rw [e a o q] at ha; cases ha)
theorem Fresh.size (x : Fresh P h) : P h.objs.size := x _ (get_size_none h)
theorem wp_noE {α : Type} {M : Model} {A : Around} {t : Sem α} {Q : α → Shared → Prop} {E : Value → Shared → Prop} {s : Shared} (x : wpAny M A t Q NoE s) : wpAny M A t Q E s :=
  wpAny_mono x (fun _ _ q => q) fun _ _ f => f.elim
section ops
variable {prog : Program} {w : World} {A : Around} {s : Shared} {x y : PyData} {vx vy : Value}
noncomputable def Gv (P : Addr → Prop) (s : Shared) (d : PyData) (v : Value) (s' : Shared) : Prop := Kp s s' ∧ RV P s'.heap d v
theorem Gv.int {i : Int} {t : Tok} {k : Nat} : Gv P s (.int i) (.int i t) { s with toks := k } := ⟨Kp.toks _ _, RV.int _ _⟩
theorem Gv.str {i : Str} {t : Tok} {k : Nat} : Gv P s (.str i) (.str i t) { s with toks := k } := ⟨Kp.toks _ _, RV.str _ _⟩
theorem Gv.bool {b : Bool} : Gv P s (.bool b) (.bool b) s := ⟨Kp.refl _, RV.bool _⟩
theorem smallI_iff {i : Int} : smallI i = true ↔ -(2 ^ 60) < i ∧ i < 2 ^ 60 := by simp [smallI]
theorem add_lists_raw {l b : Addr} {vs ws : List Value} {Q : Value → Shared → Prop} (hl : s.heap.IsList l vs.toArray) (hb : s.heap.IsList b ws.toArray)
    (h : Q (.ref s.heap.objs.size) { s with heap := s.heap.push { cls := .type "list", data := .seq (vs ++ ws).toArray } })
    (hsz : vs.length + ws.length ≤ sizeLine) : wpAny (model prog w) A (binaryOp .Add (.ref l) (.ref b)) Q NoE s := by
  obtain ⟨⟨cls, dd, data, sl⟩, ho, hc, n, hd⟩ := id hl
  obtain ⟨⟨cls2, dd2, data2, sl2⟩, ho2, hc2, n2, hd2⟩ := id hb
  simp only at hc hd hc2 hd2
  subst hc hd hc2 hd2
  have e : vs.toArray ++ ws.toArray = (vs ++ ws).toArray := by simp
  refine concat_meets ⟨_, ho, rfl⟩ ⟨_, ho2, rfl⟩ noFill_list_add seq_list_add PySem.F.slot_list_add PySem.F.entry_list_add (PySem.F.args_list_add_2 _ _) (list_addW l b vs.toArray ws.toArray n n2 dd dd2 sl sl2 (by simpa using hsz)) ⟨ho, ho2, ?_⟩
  rw [e]
  exact h
theorem ints_of {α : Type} {h : Heap} {f : Int → Int → Option α} {d : α} (hx : RW P h x vx) (hy : RW P h y vy) (e : onInts f x y = some d) : ∃ a b t u, vx = .int a t ∧ vy = .int b u ∧ f a b = some d := by
  unfold onInts at e
  split at e
  · obtain ⟨t, rfl⟩ := RW.inv_int hx; obtain ⟨u, rfl⟩ := RW.inv_int hy
    exact ⟨_, _, t, u, rfl, rfl, e⟩
  · cases e
theorem some_if {α : Type} {c : Prop} [Decidable c] {a d : α} (e : (if c then some a else none) = some d) : c ∧ a = d := by
  split at e
  · rename_i h; cases e; exact ⟨h, rfl⟩
  · cases e
theorem binop_ok {op : Operator} (hP : Fresh P s.heap) (hx : RW P s.heap x vx) (hy : RW P s.heap y vy) (e : binop op x y = some d) :
    wpAny (model prog w) A (binaryOp op vx vy) (Gv P s d) NoE s := by
  unfold binop at e
  split at e
  · unfold addD at e
    split at e
    · cases e
      obtain ⟨t, rfl⟩ := RW.inv_int hx; obtain ⟨u, rfl⟩ := RW.inv_int hy
      exact add_int Gv.int
    · obtain ⟨hl, rfl⟩ := some_if e
      obtain ⟨t, rfl⟩ := RW.inv_str hx; obtain ⟨u, rfl⟩ := RW.inv_str hy
      exact add_str (fun _ _ => Gv.str) (by rw [sizeLine_eq]; unfold bigN at hl; omega)
    · obtain ⟨hl, rfl⟩ := some_if e
      obtain ⟨l, vs, rfl, h1, h2⟩ := hx
      obtain ⟨l', ws, rfl, h3, h4⟩ := hy
      refine add_lists_raw h1 h3 ⟨Kp.push _ _, RV.newList (hP.size) (h2.append h4)⟩ (by rw [h2.length, h4.length, sizeLine_eq]; unfold bigN at hl; omega)
    · cases e
  · obtain ⟨a, b, t, u, rfl, rfl, e⟩ := ints_of hx hy e
    cases e; exact sub_int Gv.int
  · obtain ⟨a, b, t, u, rfl, rfl, e⟩ := ints_of hx hy e
    obtain ⟨hl, rfl⟩ := some_if e
    simp only [Bool.and_eq_true, smallI_iff] at hl
    exact mul_int Gv.int (IntMulOk.of_left (intBits_le_64 (by omega) (by omega)))
  · obtain ⟨a, b, t, u, rfl, rfl, e⟩ := ints_of hx hy e
    obtain ⟨hl, rfl⟩ := some_if e
    simp only [Bool.and_eq_true, decide_eq_true_eq, bne_iff_ne] at hl
    exact floordiv_int hl.1 Gv.int (Or.inl (PyProof.noPylong_small (by omega)))
  · obtain ⟨a, b, t, u, rfl, rfl, e⟩ := ints_of hx hy e
    obtain ⟨hl, rfl⟩ := some_if e
    simp only [bne_iff_ne] at hl
    exact mod_int hl Gv.int
  · obtain ⟨a, b, t, u, rfl, rfl, e⟩ := ints_of hx hy e
    obtain ⟨hl, rfl⟩ := some_if e
    simp only [Bool.and_eq_true, smallI_iff, decide_eq_true_eq] at hl
    refine pow_int hl.1.2 ?_ Gv.int
    have h1 : Builtin.Int.intBits a ≤ 64 := intBits_le_64 (by have := hl.1.1.1; omega) (by have := hl.1.1.2; omega)
    have h2 := hl.2
    have h3 := hl.1.2
    have : (Builtin.Int.intBits a : Int) * b ≤ 64 * 64 := Int.mul_le_mul (by exact_mod_cast h1) h2 h3 (by omega)
    omega
  · obtain ⟨a, b, t, u, rfl, rfl, e⟩ := ints_of hx hy e
    obtain ⟨hl, rfl⟩ := some_if e
    simp only [Bool.and_eq_true, smallI_iff, decide_eq_true_eq] at hl
    exact lshift_int_small hl.1.2 (by omega) (by omega) Gv.int
  · obtain ⟨a, b, t, u, rfl, rfl, e⟩ := ints_of hx hy e
    cases e; exact xor_int Gv.int
  · cases e
theorem room_units {k : Nat} (r : Room A k) {n : Nat} (h : n ≤ 800) : A.units + n < cLine := by
  have := r.units
  show A.units + n < 9900
  omega
theorem cmpop_ok {op : CmpOp} {b : Bool} {k : Nat} (rm : Room A k) (hx : RW P s.heap x vx) (hy : RW P s.heap y vy) (e : cmpop op x y = some b) :
    wpAny (model prog w) A (compareOp op vx vy) (Gv P s (.bool b)) NoE s := by
  unfold cmpop at e
  split at e
  · obtain ⟨hl, rfl⟩ := some_if e
    simp only [eqOk, Bool.and_eq_true] at hl
    obtain ⟨as, ra⟩ := hx.reads; obtain ⟨bs, rb⟩ := hy.reads
    exact SeqAt.compareEq_shaped ra rb hl.1 hl.2 (room_units rm (by omega)) Gv.bool
  · obtain ⟨hl, rfl⟩ := some_if e
    simp only [eqOk, Bool.and_eq_true] at hl
    obtain ⟨as, ra⟩ := hx.reads; obtain ⟨bs, rb⟩ := hy.reads
    exact SeqAt.compareNe_shaped ra rb hl.1 hl.2 (room_units rm (by omega)) Gv.bool
  · obtain ⟨a, b, t, u, rfl, rfl, e⟩ := ints_of hx hy e
    cases e; exact lt_int Gv.bool
  · obtain ⟨a, b, t, u, rfl, rfl, e⟩ := ints_of hx hy e
    cases e; exact le_int Gv.bool
  · obtain ⟨a, b, t, u, rfl, rfl, e⟩ := ints_of hx hy e
    cases e; exact gt_int Gv.bool
  · obtain ⟨a, b, t, u, rfl, rfl, e⟩ := ints_of hx hy e
    cases e; exact ge_int Gv.bool
  · unfold isD at e
    split at e
    · cases e; rw [RW.inv_none hx, RW.inv_none hy]; exact wpAny_is_plain rfl Gv.bool
    · cases e; rw [RW.inv_bool hx, RW.inv_bool hy]; exact is_bool Gv.bool
    · cases e; rw [RW.inv_bool hx, RW.inv_none hy]; exact wpAny_is_plain rfl Gv.bool
    · cases e; rw [RW.inv_none hx, RW.inv_bool hy]; exact wpAny_is_plain rfl Gv.bool
    · cases e; obtain ⟨t, rfl⟩ := RW.inv_str hx; rw [RW.inv_none hy]; exact wpAny_is_other (by rfl) (by intro x; cases x) Gv.bool
    · cases e
  · obtain ⟨c, hc, rfl⟩ := Option.map_eq_some_iff.mp e
    unfold isD at hc
    split at hc
    · cases hc; rw [RW.inv_none hx, RW.inv_none hy]; exact wpAny_isNot_plain rfl Gv.bool
    · cases hc; rw [RW.inv_bool hx, RW.inv_bool hy]; exact isnot_bool Gv.bool
    · cases hc; rw [RW.inv_bool hx, RW.inv_none hy]; exact wpAny_isNot_plain rfl Gv.bool
    · cases hc; rw [RW.inv_none hx, RW.inv_bool hy]; exact wpAny_isNot_plain rfl Gv.bool
    · cases hc; obtain ⟨t, rfl⟩ := RW.inv_str hx; rw [RW.inv_none hy]; exact wpAny_isNot_other (by rfl) (by intro x; cases x) Gv.bool
    · cases hc
  · unfold inD at e
    split at e
    · obtain ⟨hl, rfl⟩ := some_if e
      simp only [Bool.and_eq_true] at hl
      obtain ⟨as, ra⟩ := hx.reads; obtain ⟨bs, rb⟩ := hy.reads
      exact SeqAt.in_list_reads rb ra (SeqAt.canLay_of_shaped hl.2) (SeqAt.canLay_of_shaped hl.1) (room_in_shaped hl.1 (room_units rm (by omega))) Gv.bool
    · split at e
      · cases e; obtain ⟨t, rfl⟩ := RW.inv_str hx; obtain ⟨u, rfl⟩ := RW.inv_str hy; exact in_str Gv.bool
      · cases e
    · cases e
  · obtain ⟨c, hc, rfl⟩ := Option.map_eq_some_iff.mp e
    unfold inD at hc
    split at hc
    · obtain ⟨hl, rfl⟩ := some_if hc
      simp only [Bool.and_eq_true] at hl
      obtain ⟨as, ra⟩ := hx.reads; obtain ⟨bs, rb⟩ := hy.reads
      exact SeqAt.notIn_list_reads rb ra (SeqAt.canLay_of_shaped hl.2) (SeqAt.canLay_of_shaped hl.1) (room_in_shaped hl.1 (room_units rm (by omega))) Gv.bool
    · split at hc
      · cases hc; obtain ⟨t, rfl⟩ := RW.inv_str hx; obtain ⟨u, rfl⟩ := RW.inv_str hy; exact notIn_str Gv.bool
      · cases hc
    · cases hc
theorem truth_ok {b : Bool} (hx : RW P s.heap x vx) (e : truth x = some b) :
    wpAny (model prog w) A (truthy vx) (fun c s' => c = b ∧ Kp s s') NoE s := by
  unfold truth at e
  split at e
  · cases e; rw [RW.inv_none hx]; exact truthy_none ⟨rfl, Kp.refl _⟩
  · cases e; rw [RW.inv_bool hx]; exact wpAny_truthy_bool ⟨rfl, Kp.refl _⟩
  · cases e; obtain ⟨t, rfl⟩ := RW.inv_int hx; exact truthy_int ⟨rfl, Kp.refl _⟩
  · split at e
    · rename_i z hl; cases e; obtain ⟨t, rfl⟩ := RW.inv_str hx
      unfold bigN at hl
      refine PySem.P.truthy_str (by omega) ⟨?_, Kp.toks _ _⟩
      have : ((z.length : Int) != 0) = (z.length != 0) := by
        rw [Bool.eq_iff_iff]; simp
      exact this
    · cases e
  · split at e
    · rename_i z hl; cases e
      obtain ⟨a, vs, rfl, h1, h2⟩ := hx
      unfold bigN at hl
      have := h2.length
      refine wpAny_truthy_list h1 (by simp; omega) ⟨?_, Kp.toks _ _⟩
      cases vs <;> cases z <;> simp_all
    · cases e
  · cases e
theorem seqIndex?_lt {i : Int} {n k : Nat} (e : seqIndex? i n = some k) : k < n := by
  have key : ∀ j : Int, (if (decide (0 ≤ j) && decide (j < (n : Int))) = true then some j.toNat else none) = some k → k < n := by
    intro j hj
    split at hj
    · rename_i hc
      simp only [Bool.and_eq_true, decide_eq_true_eq] at hc
      cases hj; omega
    · cases hj
  exact key _ e
noncomputable def Subs (o : Value) (s : Shared) : Prop := ∃ T id, s.TypeIs o T ∧ typeLookup (.type T) "__getitem__" = pure (some (.builtin id))
theorem Subs.str {z : Str} {t : Tok} : Subs (.str z t) s := ⟨_, _, typeIs_str _ _ _, F.slot_str_getitem.lookup⟩
theorem Subs.list {a : Addr} {its : Array Value} (h : s.heap.IsList a its) : Subs (.ref a) s := ⟨_, _, h.typeIs, slot_list_getitem.lookup⟩
theorem Subs.tuple {a : Addr} {its : Array Value} (h : IsTup s.heap a its) : Subs (.ref a) s := ⟨_, _, h.typeIs, slot_tuple_getitem.lookup⟩
theorem seqIndex?_nonneg {i : Int} {n k : Nat} (h0 : 0 ≤ i) (e : seqIndex? i n = some k) : k = i.toNat := by
  unfold seqIndex? at e
  have : ¬ i < 0 := by omega
  simp only [this, if_false] at e
  split at e
  · cases e; rfl
  · cases e
theorem seqIndex?_neg' {i : Int} {n k : Nat} (h0 : i < 0) (e : seqIndex? i n = some k) : k = (i + n).toNat ∧ -(n : Int) ≤ i := by
  unfold seqIndex? at e
  simp only [h0, if_true] at e
  split at e
  · rename_i hc
    simp only [Bool.and_eq_true, decide_eq_true_eq] at hc
    cases e; exact ⟨rfl, by omega⟩
  · cases e
theorem getitem_ok (hx : RW P s.heap x vx) (hy : RV P s.heap y vy) (e : getitem x y = some d) :
    Subs vx s ∧ wpAny (model prog w) A (getItem vx vy) (Gv P s d) NoE s := by
  unfold getitem at e
  split at e
  · rename_i z i
    split at e
    · rename_i hl
      obtain ⟨t, rfl⟩ := RW.inv_str hx; obtain ⟨u, rfl⟩ := RV.inv_int hy
      rw [smallI_iff] at hl
      cases hc : (seqIndex? i z.length).bind (z.cps[·]?) with
      | none => rw [hc] at e; cases e
      | some c =>
        rw [hc] at e; cases e
        exact ⟨Subs.str, getItem_str (by simp only [Bool.or_eq_false_iff, decide_eq_false_iff_not]; omega) hc Gv.str⟩
    · cases e
  · rename_i z i
    split at e
    · rename_i hl
      obtain ⟨a, vs, rfl, h1, h2⟩ := hx; obtain ⟨u, rfl⟩ := RV.inv_int hy
      rw [smallI_iff] at hl
      cases hc : seqIndex? i z.length with
      | none => rw [hc] at e; cases e
      | some k =>
        rw [hc] at e
        obtain ⟨v, ev, rv⟩ := h2.get (i := k) e
        refine ⟨Subs.list h1, ?_⟩
        by_cases h0 : 0 ≤ i
        · have := seqIndex?_nonneg h0 hc
          exact wpAny_getItem_list h1 h0 (by omega) (by subst this; simpa using ev) ⟨Kp.refl _, rv⟩
        · have := seqIndex?_neg' (by omega) hc
          refine wpAny_getItem_list_neg h1 (by omega) ?_ (by omega) ?_ ⟨Kp.refl _, rv⟩
          · have := h2.length; simp; omega
          · have h3 := h2.length
            have h4 : (i + (vs.toArray.size : Nat)).toNat = k := by rw [this.1]; simp [h3]
            rw [h4]; simpa using ev
    · cases e
  · rename_i z i
    split at e
    · rename_i hl
      obtain ⟨a, vs, rfl, _, h1, h2⟩ := RW.inv_tuple hx; obtain ⟨u, rfl⟩ := RV.inv_int hy
      rw [smallI_iff] at hl
      cases hc : seqIndex? i z.length with
      | none => rw [hc] at e; cases e
      | some k =>
        rw [hc] at e
        obtain ⟨v, ev, rv⟩ := h2.get (i := k) e
        refine ⟨Subs.tuple h1, getItem_tuple h1 (by omega) (by omega) (j := k) ?_ (by simpa using ev) ⟨Kp.refl _, rv⟩⟩
        have h3 := h2.length
        have : vs.toArray.size = z.length := by simp [h3]
        rw [this]; exact hc
    · cases e
  · cases e
theorem pickL_slicePick {vs : List Value} {xs : List PyData} (h : RVs P s.heap xs vs) (lo hi st : Option Int) :
    ∃ ws, slicePick vs.toArray lo hi st = ws.toArray ∧ RVs P s.heap (pickL xs lo hi st) ws := by
  refine ⟨_, rfl, ?_⟩
  unfold pickL
  have e : vs.toArray.size = xs.length := by simp [h.length]
  rw [e]
  have := h.filterMap (sliceRange (sliceBounds lo hi st xs.length).1 (sliceBounds lo hi st xs.length).2.1 (sliceBounds lo hi st xs.length).2.2)
  simpa using this
theorem slice_ok {lo hi st : Option Int} {vl vu vs : Value} {sl : Addr} (hP : Fresh P s.heap) (hx : RW P s.heap x vx)
    (ho : s.heap.get? sl = some { cls := .type "slice", data := .fields #[vl, vu, vs] }) (pl : IsPart vl lo) (pu : IsPart vu hi) (ps : IsPart vs st) (e : slice x lo hi st = some d) :
    Subs vx s ∧ wpAny (model prog w) A (getItem vx (.ref sl)) (Gv P s d) NoE s := by
  unfold slice at e
  split at e
  · split at e
    · rename_i z hl
      cases e
      obtain ⟨t, rfl⟩ := RW.inv_str hx
      refine ⟨Subs.str, ?_⟩
      have hps : vs = partValue none := by cases ps; rfl
      obtain ⟨l, hl1, hl2⟩ : ∃ l, vl = partValue l ∧ l.map (·.1) = lo := by
        cases pl with
        | none => exact ⟨none, rfl, rfl⟩
        | int i t => exact ⟨some (i, t), rfl, rfl⟩
      obtain ⟨u, hu1, hu2⟩ : ∃ u, vu = partValue u ∧ u.map (·.1) = hi := by
        cases pu with
        | none => exact ⟨none, rfl, rfl⟩
        | int i t => exact ⟨some (i, t), rfl, rfl⟩
      subst hps hl1 hl2 hu1 hu2
      refine wpAny_getItem_str_slice (l := l) (u := u) (st := none) ⟨_, ho, rfl, rfl⟩ rfl ?_
      unfold sliceMade
      refine post_val_or_str ⟨?_, fun t' k => ?_⟩
      · have := Txt.slice_le z (l.map (·.1)) (u.map (·.1))
        refine Nat.le_trans this ?_
        rw [sizeLine_eq]; unfold bigN at hl; omega
      · exact Gv.str
    · cases e
  · split at e
    · rename_i z hl
      cases e
      simp only [Bool.and_eq_true, decide_eq_true_eq] at hl
      obtain ⟨a, ws, rfl, h1, h2⟩ := hx
      refine ⟨Subs.list h1, ?_⟩
      obtain ⟨us, e1, e2⟩ := pickL_slicePick h2 lo hi st
      refine wpAny_getItem_list_slice h1 ⟨_, ho, rfl, rfl⟩ pl pu ps hl.2 ?_ (by have := h2.length; have h3 := hl.1; rw [sizeLine_eq]; unfold bigN at h3; simp; omega)
      rw [e1]
      exact ⟨Kp.push _ _, RV.newList hP.size e2⟩
    · cases e
  · cases e
theorem one_of {vs : List Value} {a : Value} (hn : vs.length = 1) (e1 : vs[0]? = some a) : vs = [a] := by
  obtain ⟨x, r, rfl⟩ := List.exists_cons_of_length_eq_add_one hn
  rw [List.length_eq_zero_iff.mp (Nat.succ.inj hn)]
  cases e1; rfl
theorem two_of {vs : List Value} {a b : Value} (hn : vs.length = 2) (e1 : vs[0]? = some a) (e2 : vs[1]? = some b) : vs = [a, b] := by
  obtain ⟨x, r, rfl⟩ := List.exists_cons_of_length_eq_add_one hn
  rw [one_of (vs := r) (a := b) (Nat.succ.inj hn) e2]
  cases e1; rfl
theorem three_of {vs : List Value} {a b c : Value} (hn : vs.length = 3) (e1 : vs[0]? = some a) (e2 : vs[1]? = some b) (e3 : vs[2]? = some c) : vs = [a, b, c] := by
  obtain ⟨x, r, rfl⟩ := List.exists_cons_of_length_eq_add_one hn
  rw [two_of (vs := r) (a := b) (b := c) (Nat.succ.inj hn) e2 e3]
  cases e1; rfl
theorem callB_ok {b : BI} {xs : List PyData} {vs : List Value} {k : Nat} (rm : Room A k) (hx : ∀ (i : Nat) d, xs[i]? = some d → ∃ v, vs[i]? = some v ∧ RW P s.heap d v) (hn : vs.length = xs.length) (e : callB b xs = some d) :
    wpAny (model prog w) A (call (.builtin b.id) vs) (Gv P s d) NoE s := by
  have one : ∀ a, xs = [a] → ∃ v, vs = [v] ∧ RW P s.heap a v := by
    intro a ea
    subst ea
    obtain ⟨v, e1, r⟩ := hx 0 a rfl
    exact ⟨v, one_of hn e1, r⟩
  have two : ∀ a c, xs = [a, c] → ∃ v u, vs = [v, u] ∧ RW P s.heap a v ∧ RW P s.heap c u := by
    intro a c ea
    subst ea
    obtain ⟨v, e1, r⟩ := hx 0 a rfl
    obtain ⟨v', e2, r'⟩ := hx 1 c rfl
    exact ⟨v, v', two_of hn e1 e2, r, r'⟩
  unfold callB at e
  split at e
  · unfold lenD at e
    split at e
    · obtain ⟨hl, rfl⟩ := some_if e
      obtain ⟨v, rfl, r⟩ := one _ rfl
      obtain ⟨t, rfl⟩ := RW.inv_str r
      unfold bigN at hl
      exact len_str (by omega) Gv.int
    · rename_i z
      obtain ⟨hl, rfl⟩ := some_if e
      obtain ⟨v, rfl, r⟩ := one _ rfl
      obtain ⟨a, ws, rfl, h1, h2⟩ := r
      unfold bigN at hl
      have := h2.length
      refine len_list h1 (by simp; omega) ?_
      have e3 : (ws.toArray.size : Int) = (z.length : Int) := by simp [this]
      rw [e3]; exact Gv.int
    · cases e
  · unfold minD at e
    split at e
    · cases e
      obtain ⟨v, u, rfl, r, r'⟩ := two _ _ rfl
      obtain ⟨t, rfl⟩ := RW.inv_int r
      obtain ⟨t', rfl⟩ := RW.inv_int r'
      refine min_two_ints rm.handled fun h' tk hk => ⟨⟨_, _, rfl, hk⟩, ?_⟩
      split
      · exact RV.int _ _
      · exact RV.int _ _
    · cases e
  · unfold absD at e
    split at e
    · rename_i a
      cases e
      obtain ⟨v, rfl, r⟩ := one _ rfl
      obtain ⟨t, rfl⟩ := RW.inv_int r
      refine call_abs_int fun u tk => ?_
      have : (if a < 0 then -a else a) = (a.natAbs : Int) := by split <;> omega
      rw [this]; exact Gv.int
    · cases e
  · cases e
theorem gives_find4 (x y : Str) (i j : Int) (t u v v' : Tok) : PySem.Gives (Builtin.«str.find» ⟨[.str x t, .str y u, .int i v, .int j v'], []⟩) (.int (find4 x y i j)) := by
  show PySem.Gives (match Builtin.Str.occurrences x y (fromIndex x.length i) (min (fromIndex x.length j) x.length) 1 with | k :: _ => retInt k | [] => (do rule "str.find.not-found"; retInt (-1))) _
  unfold find4
  cases Builtin.Str.occurrences x y (fromIndex x.length i) (min (fromIndex x.length j) x.length) 1 with
  | nil => exact .rule (.of_eq rfl)
  | cons k _ => exact .of_eq rfl
noncomputable def GvN (P : Addr → Prop) (s : Shared) (ds : List PyData) (v : Value) (s' : Shared) : Prop :=
  ∃ a vs, v = .ref a ∧ s.heap.get? a = none ∧ Kp s s' ∧ s'.heap.PlainList a vs.toArray ∧ RVs P s'.heap ds vs
theorem GvN.toGv {ds : List PyData} {v : Value} {s' : Shared} (hP : Fresh P s.heap) (x : GvN P s ds v s') : Gv P s (.list ds) v s' := by
  obtain ⟨a, vs, rfl, h0, k, hl, r⟩ := x
  exact ⟨k, RV.list (hP a h0) hl.isList r⟩
theorem GvN.push {ds : List PyData} {vs : List Value} {tk : Nat} (r : RVs P s.heap ds vs) :
    GvN P s ds (.ref s.heap.objs.size) { s with heap := s.heap.push { cls := .type "list", data := .seq vs.toArray }, toks := tk } :=
  ⟨_, vs, rfl, get_size_none _, ⟨_, _, rfl, Ext.push _ _⟩, ⟨0, Heap.get?_push_size _ rfl⟩, r.keeps (Ext.push _ _)⟩
theorem rvs_strValues (h : Heap) : ∀ (l : List (Str × Tok)), RVs P h ((l.map (·.1)).map .str) (strValues l)
  | [] => RVs.nil
  | p :: r => RVs.cons (RV.str _ _) (rvs_strValues h r)
theorem parts_le {x y : Str} (h1 : (decide (x.length < y.length) || decide (Builtin.Str.strKind x < Builtin.Str.strKind y)) = false) (hf : (Builtin.Str.occurrences x y 0 x.length (x.length + 1)).isEmpty = false) :
    Txt.split x y = Builtin.Str.partsBetween x (Builtin.Str.occurrences x y 0 x.length (x.length + 1)) y.length := by
  unfold Txt.split
  rw [h1, hf]; rfl
theorem split_ok {x y : Str} {t u : Tok} (hx : x.length ≤ bigN) (hy : 0 < y.length) (hn : (Txt.split x y).length ≤ bigN) :
    wpAny (model prog w) A (call (.builtin "str.split") [.str x t, .str y u]) (GvN P s ((Txt.split x y).map .str)) NoE s := by
  have hsz : x.length ≤ sizeLine := by rw [sizeLine_eq]; unfold bigN at hx; omega
  have hy' : (y.length == 0) = false := by simp; omega
  cases h1 : (decide (x.length < y.length) || decide (Builtin.Str.strKind x < Builtin.Str.strKind y))
  · cases hf : (Builtin.Str.occurrences x y 0 x.length (x.length + 1)).isEmpty
    · have e := parts_le h1 hf
      refine call_meets F.slot_str_split (typeIs_str _ _ _) F.entry_str_split (F.args_str_split_2 _ _) (meets_str_split_sep x y t u h1 hy' hf hsz (by rw [← e, sizeLine_eq]; unfold bigN at hn; omega)) ?_
      show wants (GvN P s ((Txt.split x y).map .str)) NoE _ { s with toks := _, heap := s.heap.push { cls := .type "list", data := .seq (strsFrom s.toks (Builtin.Str.partsBetween x (Builtin.Str.occurrences x y 0 x.length (x.length + 1)) y.length)).toArray } }
      rw [strsFrom_eq, ← e]
      have := rvs_strValues (P := P) s.heap (numbered s.toks (Txt.split x y))
      rw [numbered_texts] at this
      exact GvN.push this
    · have e : Txt.split x y = [x] := by unfold Txt.split; rw [h1, hf]; rfl
      rw [e]
      exact call_meets F.slot_str_split (typeIs_str _ _ _) F.entry_str_split (F.args_str_split_2 _ _) (meets_str_split_not_found x y t u h1 hy' hf)
        (GvN.push (vs := [.str x t]) (RVs.cons (RV.str _ _) RVs.nil))
  · have e : Txt.split x y = [x] := by unfold Txt.split; rw [h1]; rfl
    rw [e]
    exact call_meets F.slot_str_split (typeIs_str _ _ _) F.entry_str_split (F.args_str_split_2 _ _) (meets_str_split_cannot_occur x y t u h1)
      (GvN.push (vs := [.str x t]) (RVs.cons (RV.str _ _) RVs.nil))
theorem strsOf_inv : ∀ {l : List PyData} {ts : List Str}, strsOf l = some ts → l = ts.map .str
  | [], _, e => by cases e; rfl
  | .str x :: r, ts, e => by
    unfold strsOf at e
    cases h : strsOf r with
    | none => rw [h] at e; cases e
    | some us => rw [h] at e; cases e; simp [strsOf_inv h]
  | .none :: _, _, e => by cases e
  | .bool _ :: _, _, e => by cases e
  | .int _ :: _, _, e => by cases e
  | .list _ :: _, _, e => by cases e
  | .tuple _ :: _, _, e => by cases e
  | .dict _ :: _, _, e => by cases e
theorem rvs_strs_inv {h : Heap} : ∀ {ts : List Str} {vs : List Value}, RVs P h (ts.map .str) vs → ∃ l, vs = strValues l ∧ l.map (·.1) = ts
  | [], _, x => ⟨[], x.inv_nil, rfl⟩
  | t :: ts, _, x => by
    obtain ⟨v, r, rfl, a, b⟩ := RVs.inv_cons x
    obtain ⟨u, rfl⟩ := a.inv_str
    obtain ⟨l, rfl, e⟩ := rvs_strs_inv b
    exact ⟨(t, u) :: l, rfl, by simp [e]⟩
theorem strD_of {h : Heap} {f : Str → Str → Option PyData} {vs : List Value} {xs : List PyData} {x d : PyData} {vx : Value} (hx : RV P h x vx) (one : ∀ a, xs = [a] → ∃ v, vs = [v] ∧ RW P h a v) (e : strD f x xs = some d) : ∃ z t y u, vx = .str z t ∧ vs = [.str y u] ∧ f z y = some d := by
  unfold strD at e
  split at e
  · obtain ⟨t, rfl⟩ := hx.inv_str
    obtain ⟨v, rfl, r⟩ := one _ rfl
    obtain ⟨u, rfl⟩ := RW.inv_str r
    exact ⟨_, t, _, u, rfl, rfl, e⟩
  · cases e
theorem meth_ok {m : ME} {xs : List PyData} {vs : List Value} (hP : Fresh P s.heap) (hx : RV P s.heap x vx) (hn : vs.length = xs.length) (hxs : ∀ (i : Nat) d, xs[i]? = some d → ∃ v, vs[i]? = some v ∧ RW P s.heap d v) (e : meth m x xs = some d) :
    wpAny (model prog w) A (call (.builtin m.id) (vx :: vs)) (Gv P s d) NoE s := by
  have one : ∀ a, xs = [a] → ∃ v, vs = [v] ∧ RW P s.heap a v := by
    intro a ea
    subst ea
    obtain ⟨v, e1, r⟩ := hxs 0 a rfl
    exact ⟨v, one_of hn e1, r⟩
  unfold meth at e
  split at e
  · unfold lowerD at e
    split at e
    · obtain ⟨hl, rfl⟩ := some_if e
      obtain ⟨t, rfl⟩ := hx.inv_str
      have hv : vs = [] := List.length_eq_zero_iff.mp hn
      subst hv
      unfold bigN at hl
      exact SCL.lower (by omega) fun _ => Gv.str
    · cases e
  · obtain ⟨z, t, y, u, rfl, rfl, e⟩ := strD_of hx one e
    cases e; exact SC.startswith Gv.bool
  · obtain ⟨z, t, y, u, rfl, rfl, e⟩ := strD_of hx one e
    cases e; exact SC.endswith Gv.bool
  · unfold findD at e
    split at e
    · cases e
      obtain ⟨t, rfl⟩ := hx.inv_str
      obtain ⟨v, e1, r⟩ := hxs 0 _ rfl
      obtain ⟨v', e2, r'⟩ := hxs 1 _ rfl
      obtain ⟨v'', e3, r''⟩ := hxs 2 _ rfl
      obtain rfl := three_of hn e1 e2 e3
      obtain ⟨u, rfl⟩ := RW.inv_str r
      obtain ⟨u', rfl⟩ := RW.inv_int r'
      obtain ⟨u'', rfl⟩ := RW.inv_int r''
      exact call_gives F.slot_str_find (typeIs_str _ _ _) F.entry_str_find (F.args_str_find_4 _ _ _ _) (gives_find4 _ _ _ _ _ _ _ _) Gv.int
    · cases e
  · obtain ⟨z, t, y, u, rfl, rfl, e⟩ := strD_of hx one e
    obtain ⟨hl, rfl⟩ := some_if e
    simp only [Bool.and_eq_true, decide_eq_true_eq] at hl
    exact wpAny_mono (split_ok hl.1.1 hl.1.2 hl.2) (fun _ _ g => g.toGv hP) fun _ _ f => f
  · unfold joinD at e
    split at e
    · split at e
      · rename_i h2
        obtain ⟨hl, rfl⟩ := some_if e
        obtain ⟨t, rfl⟩ := hx.inv_str
        obtain ⟨v, rfl, r⟩ := one _ rfl
        obtain ⟨a, ws, rfl, h3, h4⟩ := r
        rw [strsOf_inv h2] at h4
        obtain ⟨l, rfl, e4⟩ := rvs_strs_inv h4
        exact SC.join h3 e4 hl fun t' k => Gv.str
      · cases e
    · cases e
end ops
end Mine
end
section
open PySem PySem.W PySem.Calls PyProof.Rows
set_option Elab.async false
set_option maxRecDepth 100000
namespace Mine
inductive Place where
  | ns (L : Addr) (x : Str)
  | cell (c : Addr)
noncomputable def At (h : Heap) : Place → Value → Prop
  | .ns L x, v => ∃ m, h.Ns L m ∧ m x = some v
  | .cell c, v => h.IsCell c (some v)
theorem At.ext {h h' : Heap} {p : Place} {v : Value} (x : At h p v) (e : Ext h h') : At h' p v := by
  cases p with
  | ns L y => obtain ⟨m, n, r⟩ := x; exact ⟨m, n.at' (e L), r⟩
  | cell c => obtain ⟨o, a, b⟩ := x; exact ⟨o, e _ _ a, b⟩
noncomputable def HDict (a : Addr) (od : Obj) : Prop := lookIn "_headers" od = some (some (.ref a)) ∧ ∀ m : Str, m ≠ "_headers" → lookIn m od = some none
noncomputable def HInst (c : Addr) (P : Addr → Prop) (h : Heap) (a : Addr) (v : Value) : Prop :=
  ∃ ib db ox od, v = .ref ib ∧ P ib ∧ P db ∧ h.get? ib = some ox ∧ ox.cls = .ref c ∧ notCls ox = true ∧ ox.dict = some db ∧ h.get? db = some od ∧ HDict a od
theorem HInst.map {c : Addr} {P P' : Addr → Prop} {h h' : Heap} {a : Addr} {v : Value} (x : HInst c P h a v) (e : ∀ a o, P a → h.get? a = some o → P' a ∧ h'.get? a = some o) : HInst c P' h' a v := by
  obtain ⟨ib, db, ox, od, rfl, p, q, h1, h2, h3, h4, h5, h6⟩ := x
  exact ⟨ib, db, ox, od, rfl, (e _ _ p h1).1, (e _ _ q h5).1, (e _ _ p h1).2, h2, h3, h4, (e _ _ q h5).2, h6⟩
theorem HInst.inst {c : Addr} {P : Addr → Prop} {h : Heap} {a : Addr} {v : Value} (x : HInst c P h a v) : ∃ ib ox od, v = .ref ib ∧ InstAt h ib ox c (some od) ∧ HDict a od := by
  obtain ⟨ib, db, ox, od, rfl, p, q, h1, h2, h3, h4, h5, h6⟩ := x
  exact ⟨ib, ox, od, rfl, ⟨h1, h2, h3, by rw [h4]; exact h5⟩, h6⟩
noncomputable def HRead (c : Addr) (P : Addr → Prop) (h : Heap) (kvs : List PyData) (v : Value) : Prop := ∃ a vs, HInst c P h a v ∧ h.IsList a (List.toArray vs) ∧ RVs P h kvs vs
noncomputable def LVok (P : Addr → Prop) (h : Heap) : LV → Value → Prop
  | .d x, v => RV P h x v
  | .ml xs, v => RW P h (.list xs) v
  | .hd c _ kvs, v => HRead c P h kvs v
  | .hr c kvs, v => HRead c P h kvs v
  | .ed, v => ∃ b, v = .ref b ∧ (b == sysModules) = false ∧ h.get? b = some { cls := .type "dict", data := .dict #[] }
theorem HRead.mapx {c : Addr} {P P' : Addr → Prop} {h h' : Heap} {kvs : List PyData} {v : Value} (x : HRead c P h kvs v) (e : Ext h h') (p : ∀ a o, P a → h.get? a = some o → P' a) : HRead c P' h' kvs v := by
  obtain ⟨a, vs, h1, ⟨o, h2, h3⟩, r⟩ := x
  exact ⟨a, vs, h1.map fun a o q z => ⟨p a o q z, e a o z⟩, ⟨o, e _ _ h2, h3⟩, r.map fun a o q z => ⟨p a o q z, e a o z⟩⟩
theorem LVok.mapx {P P' : Addr → Prop} {h h' : Heap} {l : LV} {v : Value} (x : LVok P h l v) (e : Ext h h') (p : ∀ a o, P a → h.get? a = some o → P' a) : LVok P' h' l v := by
  cases l with
  | d => exact RV.map (fun a o q z => ⟨p a o q z, e a o z⟩) x
  | ml xs =>
    obtain ⟨a, vs, rfl, ⟨o, h1, h2⟩, r⟩ := x
    exact ⟨a, vs, rfl, ⟨o, e _ _ h1, h2⟩, r.map fun a o q z => ⟨p a o q z, e a o z⟩⟩
  | hd c ad kvs => exact HRead.mapx x e p
  | hr c kvs => exact HRead.mapx x e p
  | ed => obtain ⟨b, rfl, h0, h1⟩ := x; exact ⟨b, rfl, h0, e _ _ h1⟩
theorem LVok.ext {P : Addr → Prop} {h h' : Heap} {l : LV} {v : Value} (x : LVok P h l v) (e : Ext h h') : LVok P h' l v := x.mapx e fun _ _ p _ => p
noncomputable def Slots (sm : List (Str × Nat)) (P : Addr → Prop) (h : Heap) (pl : Nat → Place) (σ : Loc) : Prop :=
  ∀ x i l, sm.lookup x = some i → σ.at i = some l → ∃ v, At h (pl i) v ∧ LVok P h l v
noncomputable def EnvOk (env : Env) (pl : Nat → Place) (sm : List (Str × Nat)) : Prop :=
  ∀ x i, sm.lookup x = some i → (env.kindOf x = some .local ∧ pl i = .ns env.locals x) ∨
    ((env.kindOf x = some .cell ∨ env.kindOf x = some .free) ∧ ∃ c, env.cells.lookup x = some c ∧ pl i = .cell c)
structure Tab where
  G : List (Str × PyData)
  FT : List (Str × Nat × Addr)
  hc : Nat
noncomputable def sameFlat : PyData → PyData → Bool
  | .int a, .int b => a == b
  | .str a, .str b => a == b
  | _, _ => false
theorem sameFlat_eq {a b : PyData} (h : sameFlat a b = true) : a = b := by
  unfold sameFlat at h
  split at h
  · rw [eq_of_beq h]
  · rw [eq_of_beq h]
  · cases h
noncomputable def plainName (x : Str) : Bool := x != ("__debug__" : Str) && x != ("__classdict__" : Str)
noncomputable def IE.recvOk : IE → Bool
  | .callF _ _ _ .nil _ => false
  | .callB _ _ .nil _ => false
  | _ => true
noncomputable def Tgt.isOne : Tgt → Bool
  | .one .. => true
  | .tup .. => false
noncomputable def IEs.len : IEs → Nat
  | .nil => 0
  | .cons _ es => es.len + 1
noncomputable def compOk (names : List (Str × NameKind)) (sm : List (Str × Nat)) (sc : Scope) (sm' : List (Str × Nat)) (ts : List (Str × Nat)) : Bool :=
  sc.kind == .function && sc.names.all (fun x => x.2 != .cell || ((ts.map (·.1)).contains x.1 && sc.names.lookup x.1 == some .cell)) && sc.names.all (fun x => x.2 != .local || sc.names.lookup x.1 == some .local) &&
  sc.names.all (fun x => x.2 != .free || (sc.names.lookup x.1 == some .free && (names.lookup x.1 == some .cell || names.lookup x.1 == some .free) && (sm.lookup x.1).isSome)) &&
  ts.all (fun x => sc.names.lookup x.1 == some .local || sc.names.lookup x.1 == some .cell) &&
  sm'.all (fun x => (ts.contains x) || (sc.names.lookup x.1 == some .free && sm.lookup x.1 == some x.2 && !(ts.map (·.2)).contains x.2)) &&
  ts.all (fun x => sm'.lookup x.1 == some x.2) && decide (ts.map (·.1)).Nodup && decide (ts.map (·.2)).Nodup
noncomputable def inner (names : List (Str × NameKind)) (sc : Scope) : List (Str × NameKind) :=
  sc.names.map fun (n, k) => if (k == .free && names.lookup n == some .cell) then (n, .cell) else (n, k)
section
variable (T : Tab)
mutual
noncomputable def wf (names : List (Str × NameKind)) (sm : List (Str × Nat)) : IE → Bool
  | .int .. | .str .. | .bool .. | .none .. => true
  | .var x i _ => sm.lookup x == some i && plainName x
  | .glob x d _ => names.lookup x == some .globalImplicit && plainName x && (match T.G.lookup x with | some d' => sameFlat d' d | none => false)
  | .bin _ a b _ => wf names sm a && wf names sm b
  | .neg a _ => wf names sm a
  | .not a _ => wf names sm a
  | .cmp _ a b _ => wf names sm a && wf names sm b
  | .boolop _ es _ => wfs names sm es
  | .ifexp t b o _ => wf names sm t && wf names sm b && wf names sm o
  | .callF f x _ es _ => names.lookup x == some .globalImplicit && plainName x && (match T.FT.lookup x with | some fa => fa.1 == f | none => false) && wfs names sm es && decide (0 < es.len)
  | .callB b _ es _ => names.lookup b.name == some .globalImplicit && wfs names sm es && decide (0 < es.len)
  | .listOf _ it _ => names.lookup ("list" : Str) == some .globalImplicit && wfit names sm it
  | .meth _ o ap es p => wf names sm o && wfs names sm es && (ap.endLine == p.line) && o.recvOk && decide (es.len < 20)
  | .sub a i _ => wf names sm a && wf names sm i
  | .slc a lo hi st _ _ => wf names sm a && wfo names sm lo && wfo names sm hi && wfo names sm st
  | .lst es _ => wfs names sm es
  | .tup es _ _ => wfs names sm es
  | .comp elt t it ifs sc sm' _ => wfit names sm it && compOk names sm sc sm' t.names && wf (inner names sc) sm' elt && wfs (inner names sc) sm' ifs
  | .comp2 elt t it t2 it2 sc sm' _ => wfit names sm it && compOk names sm sc sm' (t.names ++ t2.names) && wfit (inner names sc) sm' it2 && wf (inner names sc) sm' elt && !it2.isV
  | .hmeth _ x i _ ap es p => sm.lookup x == some i && plainName x && wfs names sm es && ap.endLine == p.line && decide (es.len < 20)
  | .hlist c x i _ _ => sm.lookup x == some i && plainName x && c == T.hc
  | .conv x i _ ap e _ _ _ _ p => sm.lookup x == some i && plainName x && wf names sm e && ap.endLine == p.line
noncomputable def wfs (names : List (Str × NameKind)) (sm : List (Str × Nat)) : IEs → Bool
  | .nil => true
  | .cons e es => wf names sm e && wfs names sm es
noncomputable def wfo (names : List (Str × NameKind)) (sm : List (Str × Nat)) : OIE → Bool
  | .none => true
  | .some e => wf names sm e
noncomputable def wfit (names : List (Str × NameKind)) (sm : List (Str × Nat)) : IT → Bool
  | .e e => wf names sm e
  | .range _ es _ => names.lookup ("range" : Str) == some .globalImplicit && wfs names sm es && decide (0 < es.len)
  | .v e => wf names sm e
end
end
-- equations
section
variable {T : Tab} {names : List (Str × NameKind)} {sm : List (Str × Nat)}
theorem wf_e1 {x i x1_} : wf T names sm (.var x i x1_) = (sm.lookup x == some i && plainName x) := rfl
theorem wf_e2 {x d x1_} : wf T names sm (.glob x d x1_) = (names.lookup x == some .globalImplicit && plainName x && (match T.G.lookup x with | some d' => sameFlat d' d | none => false)) := rfl
theorem wf_e3 {x1_ a b x2_} : wf T names sm (.bin x1_ a b x2_) = (wf T names sm a && wf T names sm b) := rfl
theorem wf_e4 {a x1_} : wf T names sm (.neg a x1_) = (wf T names sm a) := rfl
theorem wf_e5 {a x1_} : wf T names sm (.not a x1_) = (wf T names sm a) := rfl
theorem wf_e6 {x1_ a b x2_} : wf T names sm (.cmp x1_ a b x2_) = (wf T names sm a && wf T names sm b) := rfl
theorem wf_e7 {x1_ es x2_} : wf T names sm (.boolop x1_ es x2_) = (wfs T names sm es) := rfl
theorem wf_e8 {t b o x1_} : wf T names sm (.ifexp t b o x1_) = (wf T names sm t && wf T names sm b && wf T names sm o) := rfl
theorem wf_e9 {f x x1_ es x2_} : wf T names sm (.callF f x x1_ es x2_) = (names.lookup x == some .globalImplicit && plainName x && (match T.FT.lookup x with | some fa => fa.1 == f | none => false) && wfs T names sm es && decide (0 < es.len)) := rfl
theorem wf_e10 {b x1_ es x2_} : wf T names sm (.callB b x1_ es x2_) = (names.lookup b.name == some .globalImplicit && wfs T names sm es && decide (0 < es.len)) := rfl
theorem wf_e11 {x1_ it x2_} : wf T names sm (.listOf x1_ it x2_) = (names.lookup ("list" : Str) == some .globalImplicit && wfit T names sm it) := rfl
theorem wf_e12 {x1_ o ap es p} : wf T names sm (.meth x1_ o ap es p) = (wf T names sm o && wfs T names sm es && (ap.endLine == p.line) && o.recvOk && decide (es.len < 20)) := rfl
theorem wf_e13 {a i x1_} : wf T names sm (.sub a i x1_) = (wf T names sm a && wf T names sm i) := rfl
theorem wf_e14 {a lo hi st x1_ x2_} : wf T names sm (.slc a lo hi st x1_ x2_) = (wf T names sm a && wfo T names sm lo && wfo T names sm hi && wfo T names sm st) := rfl
theorem wf_e15 {es x1_} : wf T names sm (.lst es x1_) = (wfs T names sm es) := rfl
theorem wf_e16 {es x1_ x2_} : wf T names sm (.tup es x1_ x2_) = (wfs T names sm es) := rfl
theorem wf_e17 {elt t it ifs sc sm' x1_} : wf T names sm (.comp elt t it ifs sc sm' x1_) = (wfit T names sm it && compOk names sm sc sm' t.names && wf T (inner names sc) sm' elt && wfs T (inner names sc) sm' ifs) := rfl
theorem wf_e18 {elt t it t2 it2 sc sm' x1_} : wf T names sm (.comp2 elt t it t2 it2 sc sm' x1_) = (wfit T names sm it && compOk names sm sc sm' (t.names ++ t2.names) && wfit T (inner names sc) sm' it2 && wf T (inner names sc) sm' elt && !it2.isV) := rfl
theorem wf_e19 {x1_ x i x2_ ap es p} : wf T names sm (.hmeth x1_ x i x2_ ap es p) = (sm.lookup x == some i && plainName x && wfs T names sm es && ap.endLine == p.line && decide (es.len < 20)) := rfl
theorem wf_e20 {c x i x1_ x2_} : wf T names sm (.hlist c x i x1_ x2_) = (sm.lookup x == some i && plainName x && c == T.hc) := rfl
theorem wf_e21 {x i x1_ ap e x2_ x3_ x4_ x5_ p} : wf T names sm (.conv x i x1_ ap e x2_ x3_ x4_ x5_ p) = (sm.lookup x == some i && plainName x && wf T names sm e && ap.endLine == p.line) := rfl
theorem wfs_e0 : wfs T names sm (.nil) = (true) := rfl
theorem wfs_e1 {e es} : wfs T names sm (.cons e es) = (wf T names sm e && wfs T names sm es) := rfl
theorem wfo_e0 : wfo T names sm (.none) = (true) := rfl
theorem wfo_e1 {e} : wfo T names sm (.some e) = (wf T names sm e) := rfl
theorem wfit_e0 {e} : wfit T names sm (.e e) = (wf T names sm e) := rfl
theorem wfit_e1 {x1_ es x2_} : wfit T names sm (.range x1_ es x2_) = (names.lookup ("range" : Str) == some .globalImplicit && wfs T names sm es && decide (0 < es.len)) := rfl
theorem wfit_e2 {e} : wfit T names sm (.v e) = (wf T names sm e) := rfl
end
-- equations end
structure Here (env : Env) (pl : Nat → Place) (sm : List (Str × Nat)) (σ : Loc) (hB : Heap) (P : Addr → Prop) (A : Around) (k : Nat) (s : Shared) : Prop where
  kind : env.scope.kind = .function
  globals : env.globals = mainGlobals
  builtins : env.builtins = builtinsNs
  envOk : EnvOk env pl sm
  base : Ext hB s.heap
  room : Room A k
  fresh : Fresh P s.heap
  slots : Slots sm P s.heap pl σ
theorem Here.kp {env : Env} {pl : Nat → Place} {sm : List (Str × Nat)} {σ : Loc} {hB : Heap} {P : Addr → Prop} {A : Around} {k : Nat} {s s' : Shared} (H : Here env pl sm σ hB P A k s) (x : Kp s s') : Here env pl sm σ hB P A k s' :=
  ⟨H.kind, H.globals, H.builtins, H.envOk, H.base.trans x.ext, H.room, H.fresh.ext x.ext, fun y i l a b => let ⟨v, c, d⟩ := H.slots y i l a b; ⟨v, c.ext x.ext, d.ext x.ext⟩⟩
noncomputable def FnOk (prog : Program) (w : World) (hB : Heap) (f : Addr) (spec : List PyData → Option PyData) (k : Nat) : Prop :=
  (∃ o fd, hB.get? f = some o ∧ o.data = .func fd) ∧
  ∀ (A : Around) (s : Shared) (P : Addr → Prop) (vs : List Value) (ds : List PyData) (d : PyData), Ext hB s.heap → Room A k → Fresh P s.heap → RVs P s.heap ds vs → spec ds = some d →
    wpAny (model prog w) A (call (.ref f) vs) (Gv P s d) NoE s
noncomputable def ConvOk (prog : Program) (w : World) (hB : Heap) (f : Addr) : Prop :=
  ∀ (A : Around) (s : Shared) (v : Value) (z : Str) (t : Tok) (b : Bool), Ext hB s.heap → Room A 1 → cleanS z = true →
    wpAny (model prog w) A (call (.ref f) [v, .str z t] [("name", .bool b)]) (fun r s' => Kp s s' ∧ ∃ t', r = .str z t') NoE s
noncomputable def HrOk (prog : Program) (w : World) (hB : Heap) (c f : Addr) (spec : List PyData → List PyData → Option PyData) (k : Nat) : Prop :=
  ∀ (A : Around) (s : Shared) (P : Addr → Prop) (v : Value) (kvs : List PyData) (vs : List Value) (ds : List PyData) (d : PyData), Ext hB s.heap → Room A k → Fresh P s.heap → HRead c P s.heap kvs v → RVs P s.heap ds vs → spec kvs ds = some d →
    wpAny (model prog w) A (call (.ref f) (v :: vs)) (Gv P s d) NoE s
noncomputable def HwOk (prog : Program) (w : World) (hB : Heap) (c f : Addr) (spec : List PyData → List PyData → Option (List PyData × PyData)) (k : Nat) : Prop :=
  ∀ (A : Around) (s : Shared) (P : Addr → Prop) (v : Value) (a : Addr) (ws : List Value) (kvs : List PyData) (vs : List Value) (ds kvs' : List PyData) (d : PyData), Ext hB s.heap → Room A k → Fresh P s.heap → HInst c P s.heap a v → ¬ P a → hB.get? a = none →
    s.heap.PlainList a ws.toArray → RVs P s.heap kvs ws → RVs P s.heap ds vs → spec kvs ds = some (kvs', d) →
    wpAny (model prog w) A (call (.ref f) (v :: vs)) (fun r s' => ∃ h' tk ws', s' = { s with heap := h', toks := tk } ∧ (∀ b o, b ≠ a → s.heap.get? b = some o → h'.get? b = some o) ∧ h'.PlainList a (List.toArray ws') ∧ RVs P h' kvs' ws' ∧ RV P h' d r) NoE s
noncomputable def HnOk (prog : Program) (w : World) (hB : Heap) (c : Addr) : Prop :=
  ∀ (A : Around) (s : Shared), Ext hB s.heap → Room A 3 →
    wpAny (model prog w) A (call (.ref c) []) (fun v s' => ∃ a, Kp s s' ∧ s.heap.get? a = none ∧ s'.heap.PlainList a #[] ∧ HInst c (fun b => s.heap.get? b = none ∧ b ≠ a) s'.heap a v) NoE s
noncomputable def isMeth (K : Frag) (c : Addr) (m : Str) (f : Addr) : Bool := findIn K (.ref c) m == some (some (.ref f)) && typeIn K (.ref f) == some (.type "function") && keepIn K (.ref f) && m != "_headers"
structure HdB (prog : Program) (w : World) (K : Frag) (hB : Heap) (hG : Hs) (k : Nat) : Prop where
  pos : 3 ≤ k
  name : nsIn K mainGlobals ("Headers" : Str) = some (some (.ref hG.cls))
  keep : keepIn K (.ref hG.cls) = true
  new : HnOk prog w hB hG.cls
  ga : findIn K (.ref hG.cls) "__getattribute__" = some (some (.builtin "object.__getattribute__"))
  gt : findIn K (.ref hG.cls) "__getattr__" = some none
  cd : ∃ cd, clsIn K hG.cls = some cd ∧ cd.hasDict = true
  own : findIn K (.ref hG.cls) "_headers" = some none
  conv : ∃ f, isMeth K hG.cls "_convert_string_type" f = true ∧ ConvOk prog w hB f
  get : ∀ m kvs ds d, hG.get m kvs ds = some d → ∃ f, isMeth K hG.cls m f = true ∧ HrOk prog w hB hG.cls f (hG.get m) k
  set : ∀ m kvs ds r, hG.set m kvs ds = some r → ∃ f, isMeth K hG.cls m f = true ∧ HwOk prog w hB hG.cls f (hG.set m) k
structure Base (prog : Program) (w : World) (K : Frag) (hB : Heap) (T : Tab) (Γ : Nat → List PyData → Option PyData) (hG : Hs) (k : Nat) : Prop where
  hd : HdB prog w K hB hG k
  hc : T.hc = hG.cls
  top : ∃ p loose mg mb, TopRead p loose mg mb hB
  kin : K.In hB
  g : ∀ x d, T.G.lookup x = some d → ∃ v, nsIn K mainGlobals x = some (some v) ∧ ∀ h, Reads h v d []
  ft : ∀ x f a, T.FT.lookup x = some (f, a) → nsIn K mainGlobals x = some (some (.ref a)) ∧ FnOk prog w hB a (Γ f) k
  bi : ∀ b : BI, b ≠ .str → nsIn K mainGlobals b.name = some none
  range : nsIn K mainGlobals ("range" : Str) = some none
  list : nsIn K mainGlobals ("list" : Str) = some none
section
variable {prog : Program} {w : World} {K : Frag} {hB : Heap} {T : Tab} {Γ : Nat → List PyData → Option PyData} {hG : Hs}
  {env : Env} {pl : Nat → Place} {sm : List (Str × Nat)} {σ : Loc} {P : Addr → Prop} {A : Around} {k : Nat} {s : Shared}
theorem Here.hread {x : Str} {i : Nat} {kvs : List PyData} {c : Nat} (H : Here env pl sm σ hB P A k s) (hx : sm.lookup x = some i) (hh : σ.hdr i c = some kvs) : ∃ v, At s.heap (pl i) v ∧ HRead c P s.heap kvs v := by
  unfold Loc.hdr at hh
  split at hh
  · rename_i c' ad' kvs' hs
    split at hh
    · rename_i hc; cases hh
      obtain ⟨v, a, b⟩ := H.slots x i _ hx hs
      rw [← eq_of_beq hc]; exact ⟨v, a, b⟩
    · cases hh
  · rename_i c' kvs' hs
    split at hh
    · rename_i hc; cases hh
      obtain ⟨v, a, b⟩ := H.slots x i _ hx hs
      rw [← eq_of_beq hc]; exact ⟨v, a, b⟩
    · cases hh
  · cases hh
theorem plainName_1 {x : Str} (h : plainName x = true) : (x == ("__debug__" : Str)) = false := by
  simp only [plainName, Bool.and_eq_true, bne_iff_ne] at h
  simpa using h.1
theorem plainName_2 {x : Str} (h : plainName x = true) : (x == ("__classdict__" : Str)) = false := by
  simp only [plainName, Bool.and_eq_true, bne_iff_ne] at h
  simpa using h.2
theorem name_var {x : Str} {i : Nat} {p : Pos} {v : Value} {Q : Value → Shared → Prop} (H : Here env pl sm σ hB P A k s) (hx : sm.lookup x = some i) (hp : plainName x = true) (a : At s.heap (pl i) v) (q : Q v s) :
    wpAny (model prog w) A (eval (.Name x p) env) Q NoE s := by
  refine wpAny_Name ?_ (plainName_1 hp)
  rcases H.envOk x i hx with ⟨h1, h2⟩ | ⟨h1, c, h2, h3⟩
  · rw [h2] at a
    obtain ⟨m, n, e⟩ := a
    exact wpAny_loadName_local H.kind h1 n e q
  · rw [h3] at a
    rcases h1 with h1 | h1
    · exact wpAny_loadName_cell H.kind h1 h2 a q
    · exact wpAny_loadName_free H.kind h1 h2 a q (plainName_2 hp)
theorem name_glob {x : Str} {p : Pos} {v : Value} {Q : Value → Shared → Prop} (B : Base prog w K hB T Γ hG k) (H : Here env pl sm σ hB P A k s) (hx : env.kindOf x = some .globalImplicit) (hp : (x == ("__debug__" : Str)) = false)
    (e : nsIn K mainGlobals x = some (some v)) (q : Q v s) : wpAny (model prog w) A (eval (.Name x p) env) Q NoE s := by
  obtain ⟨_, _, mg, mb, TR⟩ := B.top
  exact Name_function_global H.kind hx (loadGlobal_global (by rw [H.globals]; exact TR.g.keeps H.base) (mg_of B.kin TR.g e) q) hp
theorem name_boot {x : Str} {p : Pos} {v : Value} {Q : Value → Shared → Prop} (B : Base prog w K hB T Γ hG k) (H : Here env pl sm σ hB P A k s) (hx : env.kindOf x = some .globalImplicit) (hp : (x == ("__debug__" : Str)) = false)
    (e : nsIn K mainGlobals x = some none) (hv : bootBuiltins x = some v) (hn : x ≠ "__name__") (q : Q v s) : wpAny (model prog w) A (eval (.Name x p) env) Q NoE s := by
  obtain ⟨_, _, mg, mb, TR⟩ := B.top
  exact Name_function_global H.kind hx (loadGlobal_builtin (by rw [H.globals]; exact TR.g.keeps H.base) (mg_none_of B.kin TR.g e) (by rw [H.builtins]; exact TR.b.keeps H.base) ((TR.builtins x hn).trans hv) q) hp
theorem star_ast (e : IE) (rest : List Expr) : starEach (e.ast :: rest) env = (false, eval e.ast env) :: starEach rest env := by cases e <;> rfl
theorem stars_plain (p : Pos) : ∀ es : IEs, (backTo p (starEach es.ast env)).any (·.1) = false
  | .nil => rfl
  | .cons e es => by
    show (backTo p (starEach (e.ast :: es.ast) env)).any (·.1) = false
    rw [star_ast]
    exact stars_plain p es
theorem stars_plain' (p : Pos) : ∀ es : IEs, (backTo p (starEach es.ast env)).all (fun x => !x.1) = true
  | .nil => rfl
  | .cons e es => by
    show (backTo p (starEach (e.ast :: es.ast) env)).all (fun x => !x.1) = true
    rw [star_ast]
    exact stars_plain' p es
theorem len_ast : ∀ es : IEs, es.ast.length = es.len
  | .nil => rfl
  | .cons e es => by show (e.ast :: es.ast).length = es.len + 1; rw [List.length_cons, len_ast es]
theorem base_ast {name : Str} (o : IE) (h : o.recvOk = true) : attributeBase o.ast name env (eval o.ast env) = eval o.ast env := by
  cases o with
  | callF f x px es p => cases es with
    | nil => cases h
    | cons => rfl
  | callB b px es p => cases es with
    | nil => cases h
    | cons => rfl
  | _ => rfl
noncomputable def GvS (P : Addr → Prop) (s : Shared) (ds : List PyData) (vs : List Value) (s' : Shared) : Prop := Kp s s' ∧ RVs P s'.heap ds vs
noncomputable def GvW (P : Addr → Prop) (s : Shared) (d : PyData) (v : Value) (s' : Shared) : Prop := Kp s s' ∧ RW P s'.heap d v
noncomputable def GvWS (P : Addr → Prop) (s : Shared) (ds : List PyData) (vs : List Value) (s' : Shared) : Prop := Kp s s' ∧ vs.length = ds.length ∧ ∀ (i : Nat) d, ds[i]? = some d → ∃ v, vs[i]? = some v ∧ RW P s'.heap d v
noncomputable def GvT (s : Shared) (b c : Bool) (s' : Shared) : Prop := c = b ∧ Kp s s'
theorem Gv.after {s s₁ s₂ : Shared} {d : PyData} {v : Value} (x : Kp s s₁) (y : Gv P s₁ d v s₂) : Gv P s d v s₂ := ⟨x.trans y.1, y.2⟩
theorem GvW.after {s s₁ s₂ : Shared} {d : PyData} {v : Value} (x : Kp s s₁) (y : GvW P s₁ d v s₂) : GvW P s d v s₂ := ⟨x.trans y.1, y.2⟩
theorem HdB.findHeaders (D : HdB prog w K hB hG k) {od : Obj} {a : Addr} (h : HDict a od) : findObj K hG.cls (some od) "_headers" = some (.value (.ref a)) := by
  obtain ⟨cd, h1, h2⟩ := D.cd
  unfold findObj
  rw [h1, Option.bind_some, D.own, Option.bind_some]
  simp only [Option.bind_some]
  have e : PySem.W.ownOf cd (some od) "_headers" = some (some (.ref a)) := by
    unfold PySem.W.ownOf
    rw [if_pos h2]; exact h.1
  rw [e]; rfl
theorem hlist_ok {x : Str} {i : Nat} {px p : Pos} {v : Value} {a : Addr} {Q : Value → Shared → Prop} (B : Base prog w K hB T Γ hG k) (H : Here env pl sm σ hB P A k s) (hx : sm.lookup x = some i) (hp : plainName x = true) (q1 : At s.heap (pl i) v) (q2 : HInst hG.cls P s.heap a v) (q : Q (.ref a) { s with toks := s.toks + 1 }) :
    wpAny (model prog w) A (eval (.Attribute (.Name x px) "_headers" p) env) Q NoE s := by
  refine Attribute_any_ (name_var H hx hp q1 ?_)
  obtain ⟨ib, ox, od, rfl, I, hd⟩ := q2.inst
  have X : K.In s.heap := B.kin.keeps H.base
  exact get_value X I B.hd.ga (B.hd.findHeaders hd) rfl q
theorem view_of {e : IE} {d : PyData} (B : Base prog w K hB T Γ hG k) (H : Here env pl sm σ hB P A k s) (hw : wf T env.scope.names sm e = true) (hv : view e σ (ev Γ hG e σ) = some d)
    (h : ev Γ hG e σ = some d → wpAny (model prog w) A (eval e.ast env) (Gv P s d) NoE s) : wpAny (model prog w) A (eval e.ast env) (GvW P s d) NoE s := by
  have go : ev Γ hG e σ = some d → wpAny (model prog w) A (eval e.ast env) (GvW P s d) NoE s := fun q => wpAny_mono (h q) (fun _ _ g => ⟨g.1, g.2.toRW⟩) fun _ _ f => f
  cases e with
  | var x i p =>
    unfold view at hv
    simp only at hv
    split at hv
    · rename_i xs hs
      cases hv
      simp only [wf_e1, wf_e2, wf_e3, wf_e4, wf_e5, wf_e6, wf_e7, wf_e8, wf_e9, wf_e10, wf_e11, wf_e12, wf_e13, wf_e14, wf_e15, wf_e16, wf_e17, wf_e18, wf_e19, wf_e20, wf_e21, Bool.and_eq_true, beq_iff_eq] at hw
      obtain ⟨v, a, b⟩ := H.slots x i _ hw.1 hs
      exact name_var H hw.1 hw.2 a ⟨Kp.refl _, b⟩
    · exact go hv
  | hlist c x i px p =>
    simp only [wf_e1, wf_e2, wf_e3, wf_e4, wf_e5, wf_e6, wf_e7, wf_e8, wf_e9, wf_e10, wf_e11, wf_e12, wf_e13, wf_e14, wf_e15, wf_e16, wf_e17, wf_e18, wf_e19, wf_e20, wf_e21, Bool.and_eq_true, beq_iff_eq] at hw
    obtain ⟨⟨h1, h2⟩, h3⟩ := hw
    rw [B.hc] at h3
    subst h3
    have hv' : (σ.hdr i hG.cls).map PyData.list = some d := hv
    cases hh : σ.hdr i hG.cls with
    | none => rw [hh] at hv'; cases hv'
    | some kvs =>
      rw [hh] at hv'; cases hv'
      obtain ⟨v, q1, a, vs, h4, h5, h6⟩ := H.hread h1 hh
      exact hlist_ok B H h1 h2 q1 h4 ⟨Kp.toks _ _, a, vs, rfl, h5, h6⟩
  | _ => exact go hv
end
end Mine
end
section
open PySem PySem.W PySem.Calls PyProof.Rows
set_option Elab.async false
set_option maxRecDepth 100000
namespace Mine
noncomputable def Stab (P : Addr → Prop) (h : Heap) (b : Addr) : Prop := P b ∧ ∃ o, h.get? b = some o
noncomputable def NoOwned (o : Obj) : Prop := ∀ n, o.cls = .type n → ["enumerate", "zip", "dict_itemiterator", "dict_reverseitemiterator", "odict_iterator", "itertools.zip_longest", "itertools.pairwise"].contains n = false
theorem NoOwned.of {o : Obj} {n : String} (h : o.cls = .type n) (e : ["enumerate", "zip", "dict_itemiterator", "dict_reverseitemiterator", "odict_iterator", "itertools.zip_longest", "itertools.pairwise"].contains n = false) : NoOwned o := fun m hm => by
  rw [h] at hm; cases hm; exact e
structure ItGv (prog : Program) (w : World) (A : Around) (Z P : Addr → Prop) (s : Shared) (xs : List PyData) (it : Value) (s' : Shared) : Prop where
  kp : Kp s s'
  walk : ∃ I fp wr Pr St, it = .ref I ∧ Walks prog w A I fp wr xs.length Pr St ∧ St 0 s'.heap ∧ s.heap.get? I = none ∧ (∀ b ∈ wr, b = I) ∧ (∀ b ∈ fp, b = I ∨ Stab Z s.heap b) ∧ (∀ b ∈ fp, ∃ o, s'.heap.get? b = some o) ∧ (∀ i h, St i h → ∃ o, h.get? I = some o ∧ NoOwned o) ∧
    ∀ i v, i < xs.length → Pr i v → ∃ d, xs[i]? = some d ∧ RV P s.heap d v
theorem letOwned_ok {M : Model} {A : Around} {s : Shared} {I : Addr} {o : Obj} {v : Value} (t : Tgt) {Q : Unit → Shared → Prop} (ho : s.heap.get? I = some o) (hn : NoOwned o) (q : Q () s) : wpAny M A (letOwnedTupleGo t.ast (.ref I) v) Q NoE s := by
  cases t with
  | one => exact wpAny_pure q
  | tup xs k p =>
    cases v with
    | ref a =>
      show wpAny M A (load I >>= _) _ _ _
      refine wpAny_bind (wpAny_load ho ?_)
      split
      · rename_i n vs hc hd
        rw [hn n hc]
        exact wpAny_pure q
      · exact wpAny_pure q
    | _ => exact wpAny_pure q
section
variable {prog : Program} {w : World} {A : Around} {P : Addr → Prop} {s : Shared} {d : PyData} {v : Value} {xs : List PyData}
theorem isTup_tuple {h : Heap} {a : Addr} {its : Array Value} (x : IsTup h a its) : h.IsTuple a its := x
theorem iter_list {Z : Addr → Prop} {a : Addr} {vs : List Value} (hh : A.handled = none) (hp : Z a) (hl : s.heap.IsList a vs.toArray) (hr : RVs P s.heap xs vs) : wpAny (model prog w) A (pyIter (.ref a)) (ItGv prog w A Z P s xs) NoE s := by
  have hne : a ≠ s.heap.objs.size := by obtain ⟨o, ho, _⟩ := hl; exact Nat.ne_of_lt (Heap.lt_size ho)
  refine wpAny_pyIter_list hl ⟨Kp.push _ _, ?_⟩
  have W := Walks.list (prog := prog) (w := w) hh s.heap.objs.size a hne vs.toArray
  have hsz : vs.toArray.size = xs.length := by simp [hr.length]
  rw [hsz] at W
  obtain ⟨o, ho, hc, n, hd⟩ := id hl
  refine ⟨_, _, _, _, _, rfl, W, ⟨⟨_, Heap.get?_push_size _ rfl, rfl, rfl⟩, hl.push _⟩, get_size_none _, fun b hb => by simpa using hb, fun b hb => ?_, fun b hb => ?_, fun i h st => let ⟨⟨o, ho, hc, _⟩, _⟩ := st; ⟨o, ho, .of hc (by decide)⟩, fun i v hi e => ?_⟩
  · simp only [List.mem_cons, List.not_mem_nil, or_false] at hb
    rcases hb with rfl | rfl
    · exact .inl rfl
    · exact .inr ⟨hp, o, ho⟩
  · simp only [List.mem_cons, List.not_mem_nil, or_false] at hb
    rcases hb with rfl | rfl
    · exact ⟨_, Heap.get?_push_size _ rfl⟩
    · exact ⟨_, Heap.get?_push_of_some _ ho⟩
  · obtain ⟨d, e1, r⟩ := hr.get' (i := i) (v := v) (by simpa using e)
    exact ⟨d, e1, r⟩
theorem iter_data (hh : A.handled = none) (hv : RV P s.heap d v) (e : itemsOf d = some xs) : wpAny (model prog w) A (pyIter v) (ItGv prog w A P P s xs) NoE s := by
  unfold itemsOf at e
  split at e
  · split at e
    · cases e
      obtain ⟨a, vs, rfl, hp, hl, hr⟩ := hv.inv_list
      exact iter_list hh hp hl hr
    · cases e
  · split at e
    · cases e
      obtain ⟨a, vs, rfl, hp, hl, hr⟩ := hv.inv_tuple
      have hne : a ≠ s.heap.objs.size := by obtain ⟨o, ho, _⟩ := hl; exact Nat.ne_of_lt (Heap.lt_size ho)
      refine wpAny_pyIter_tuple hl ⟨Kp.push _ _, ?_⟩
      have W := Walks.tuple (prog := prog) (w := w) hh s.heap.objs.size a hne vs.toArray
      have hsz : vs.toArray.size = xs.length := by simp [hr.length]
      rw [hsz] at W
      obtain ⟨o, ho, hc, n, hd⟩ := id hl
      have hl' : (s.heap.push { cls := .type "tuple_iterator", data := .fields #[.ref a, .int 0 0] }).IsTuple a vs.toArray := ⟨o, Heap.get?_push_of_some _ ho, hc, n, hd⟩
      refine ⟨_, _, _, _, _, rfl, W, ⟨⟨_, Heap.get?_push_size _ rfl, rfl, rfl⟩, hl'⟩, get_size_none _, fun b hb => by simpa using hb, fun b hb => ?_, fun b hb => ?_, fun i h st => let ⟨⟨o, ho, hc, _⟩, _⟩ := st; ⟨o, ho, .of hc (by decide)⟩, fun i v hi e => ?_⟩
      · simp only [List.mem_cons, List.not_mem_nil, or_false] at hb
        rcases hb with rfl | rfl
        · exact .inl rfl
        · exact .inr ⟨hp, o, ho⟩
      · simp only [List.mem_cons, List.not_mem_nil, or_false] at hb
        rcases hb with rfl | rfl
        · exact ⟨_, Heap.get?_push_size _ rfl⟩
        · exact ⟨_, Heap.get?_push_of_some _ ho⟩
      · obtain ⟨d, e1, r⟩ := hr.get' (i := i) (v := v) (by simpa using e)
        exact ⟨d, e1, r⟩
    · cases e
  · split at e
    · rename_i x hx
      cases e
      obtain ⟨t, rfl⟩ := hv.inv_str
      have fin : ∀ (o : Obj) (St : Nat → Heap → Prop), o.isFreed = false → Walks prog w A s.heap.objs.size [s.heap.objs.size] [s.heap.objs.size] x.cps.size (SignAt x) St → St 0 (s.heap.push o) → (∀ i h, St i h → ∃ o, h.get? s.heap.objs.size = some o ∧ NoOwned o) →
          ItGv prog w A P P s (x.cps.toList.map chr1) (.ref s.heap.objs.size) { s with heap := s.heap.push o } := by
        intro o St hf W st hlive
        refine ⟨Kp.push _ _, ?_⟩
        have hsz : x.cps.size = (x.cps.toList.map chr1).length := by simp
        rw [hsz] at W
        refine ⟨_, _, _, _, _, rfl, W, st, get_size_none _, fun b hb => by simpa using hb, fun b hb => .inl (by simpa using hb), fun b hb => ?_, hlive, fun i v hi e => ?_⟩
        · obtain rfl : b = s.heap.objs.size := by simpa using hb
          exact ⟨_, Heap.get?_push_size _ hf⟩
        · obtain ⟨c, u, e1, rfl⟩ := e
          exact ⟨chr1 c, by simp [e1], RV.str _ _⟩
      cases ha : x.cps.all (· < 128)
      · exact wpAny_pyIter_wide ha (fin _ _ rfl (Walks.strWide hh _ x t) ⟨_, Heap.get?_push_size _ rfl, rfl, rfl⟩ fun i h st => let ⟨o, ho, hc, _⟩ := st; ⟨o, ho, .of hc (by decide)⟩)
      · exact wpAny_pyIter_ascii ha (fin _ _ rfl (Walks.strAscii hh _ x t) ⟨_, Heap.get?_push_size _ rfl, rfl, rfl⟩ fun i h st => let ⟨o, ho, hc, _⟩ := st; ⟨o, ho, .of hc (by decide)⟩)
    · cases e
  · cases e
theorem iter_range {r : Addr} {a b c : Int} {t u t' : Tok} (hh : A.handled = none) (hr : IsRange s.heap r a b c t u t') (e : rangeL a b c = some xs) : wpAny (model prog w) A (pyIter (.ref r)) (ItGv prog w A P P s xs) NoE s := by
  unfold rangeL at e
  split at e
  · rename_i hc
    simp only [Bool.and_eq_true, decide_eq_true_eq] at hc
    cases e
    refine wpAny_pyIter_range hr hc.1.1.1.1 ⟨Kp.push _ _, ?_⟩
    have W := Walks.range (prog := prog) (w := w) hh s.heap.objs.size a c (Builtin.Range.rangeSize a b c).toNat
    have hsz : (Builtin.Range.rangeSize a b c).toNat = ((List.range (Builtin.Range.rangeSize a b c).toNat).map fun (k : Nat) => PyData.int (a + (k : Int) * c)).length := by simp
    rw [hsz] at W
    refine ⟨_, _, _, _, _, rfl, W, ?_, get_size_none _, fun b hb => by simpa using hb, fun b hb => .inl (by simpa using hb), fun b hb => ?_, fun i h st => ⟨_, st, .of (n := "range_iterator") rfl (by decide)⟩, fun i v hi e => ?_⟩
    · show IsRangeIter _ _ (a + ((0 : Nat) : Int) * c) _ c
      have h0 : a + ((0 : Nat) : Int) * c = a := by simp
      have h1 : ((((List.range (Builtin.Range.rangeSize a b c).toNat).map fun (k : Nat) => PyData.int (a + (k : Int) * c)).length : Nat) : Int) - ((0 : Nat) : Int) = Builtin.Range.rangeSize a b c := by
        rw [← hsz]; have := hc.1.1.1.2; omega
      rw [h0, h1]
      exact Heap.get?_push_size _ rfl
    · obtain rfl : b = s.heap.objs.size := by simpa using hb
      exact ⟨_, Heap.get?_push_size _ rfl⟩
    · obtain ⟨t, rfl⟩ := e
      rw [← hsz] at hi
      exact ⟨.int (a + (i : Int) * c), by simp [hi], RV.int _ _⟩
  · cases e
end
theorem ItGv.wide {Z P : Addr → Prop} {prog : Program} {w : World} {A : Around} {s s' : Shared} {xs : List PyData} {it : Value} (x : ItGv prog w A P P s xs it s') (h : ∀ a, P a → Z a) : ItGv prog w A Z P s xs it s' := by
  obtain ⟨k, I, fp, wr, Pr, St, rfl, W, h1, h2, h3, h4, h5, h6, h7⟩ := x
  exact ⟨k, I, fp, wr, Pr, St, rfl, W, h1, h2, h3, fun b hb => (h4 b hb).imp id fun q => ⟨h _ q.1, q.2⟩, h5, h6, h7⟩
noncomputable def ExtP (P : Addr → Prop) (h h' : Heap) : Prop := ∀ b o, P b → h.get? b = some o → h'.get? b = some o
theorem RV.but {P : Addr → Prop} {h h' : Heap} {d : PyData} {v : Value} (x : RV P h d v) (e : ExtP P h h') : RV P h' d v := x.map fun a o p q => ⟨p, e a o p q⟩
theorem RVs.but {P : Addr → Prop} {h h' : Heap} {d : List PyData} {v : List Value} (x : RVs P h d v) (e : ExtP P h h') : RVs P h' d v := x.map fun a o p q => ⟨p, e a o p q⟩
theorem RV.there {P P' : Addr → Prop} {h : Heap} {d : PyData} {v : Value} (x : RV P h d v) (e : ∀ a o, P a → h.get? a = some o → P' a) : RV P' h d v := x.map fun a o p q => ⟨e a o p q, q⟩
theorem RVs.there {P P' : Addr → Prop} {h : Heap} {d : List PyData} {v : List Value} (x : RVs P h d v) (e : ∀ a o, P a → h.get? a = some o → P' a) : RVs P' h d v := x.map fun a o p q => ⟨e a o p q, q⟩
noncomputable def bindNames : List (Str × Nat) → List Value → (Str → Option Value) → Str → Option Value
  | x :: r, v :: vs, m => bindNames r vs fun y => if y = x.1 then some v else m y
  | _, _, m => m
theorem bindNames_other : ∀ {ts : List (Str × Nat)} {vs : List Value} {m : Str → Option Value} {y : Str}, (∀ t ∈ ts, t.1 ≠ y) → bindNames ts vs m y = m y
  | [], _, _, _, _ => by simp [bindNames]
  | _ :: _, [], _, _, _ => by simp [bindNames]
  | t :: ts, v :: vs, m, y, h => by
    show bindNames ts vs _ y = m y
    rw [bindNames_other fun t' ht => h t' (List.mem_cons_of_mem _ ht)]
    rw [if_neg (Ne.symm (h t (List.mem_cons_self ..)))]
theorem bindNames_get : ∀ {ts : List (Str × Nat)} {vs : List Value} {m : Str → Option Value} {j : Nat} {t : Str × Nat} {v : Value}, (ts.map (·.1)).Nodup → ts[j]? = some t → vs[j]? = some v → bindNames ts vs m t.1 = some v
  | [], _, _, _, _, _, _, e, _ => by simp at e
  | t :: ts, [], _, _, _, _, _, _, e => by simp at e
  | t :: ts, v :: vs, m, 0, _, _, hn, e, e' => by
    simp at e e'; subst e e'
    show bindNames ts vs _ t.1 = _
    rw [bindNames_other fun t' ht q => ?_, if_pos rfl]
    simp only [List.map_cons, List.nodup_cons] at hn
    exact hn.1 (q ▸ List.mem_map_of_mem ht)
  | t :: ts, v :: vs, m, j + 1, t', v', hn, e, e' => by
    show bindNames ts vs _ t'.1 = _
    simp only [List.map_cons, List.nodup_cons] at hn
    exact bindNames_get hn.2 (by simpa using e) (by simpa using e')
theorem at_put {σ : Loc} {i j : Nat} {l l' : LV} (h : (σ.put i l).at j = some l') : (j = i ∧ l' = l) ∨ (j ≠ i ∧ σ.at j = some l') := by
  unfold Loc.put Loc.at at h
  by_cases e : i = j
  · subst e
    left
    rw [List.getElem?_set] at h
    by_cases q : i < σ.length
    · simp [q] at h; exact ⟨rfl, h.symm⟩
    · simp [q] at h
  · right
    rw [List.getElem?_set_ne e] at h
    exact ⟨fun q => e q.symm, h⟩
theorem at_del {σ : Loc} {i j : Nat} {l : LV} (h : Loc.at (σ.set i none) j = some l) : j ≠ i ∧ σ.at j = some l := by
  unfold Loc.at at h
  by_cases e : i = j
  · subst e
    rw [List.getElem?_set] at h
    by_cases q : i < σ.length <;> simp [q] at h
  · rw [List.getElem?_set_ne e] at h
    exact ⟨fun q => e q.symm, h⟩
theorem put_del (σ : Loc) (i : Nat) (l : LV) : Loc.put (σ.set i none) i l = σ.put i l := by unfold Loc.put; simp
theorem at_clr : ∀ {ts : List (Str × Nat)} {σ : Loc} {i : Nat} {l : LV}, (clr ts σ).at i = some l → (∀ t ∈ ts, t.2 ≠ i) ∧ σ.at i = some l
  | [], σ, i, l, h => ⟨fun _ m => (nomatch m), h⟩
  | t :: ts, σ, i, l, h => by
    obtain ⟨h1, h2⟩ := at_clr (ts := ts) (show (clr ts (σ.set t.2 none)).at i = some l from h)
    obtain ⟨h3, h4⟩ := at_del h2
    exact ⟨fun t' ht => (List.mem_cons.mp ht).elim (fun q => q ▸ Ne.symm h3) (h1 t'), h4⟩
theorem at_putMany : ∀ {ts : List (Str × Nat)} {ds : List PyData} {σ : Loc} {i : Nat} {l : LV}, ts.length = ds.length → (putMany ts ds σ).at i = some l →
    (∃ (j : Nat) (t : Str × Nat) (d : PyData), ts[j]? = some t ∧ ds[j]? = some d ∧ t.2 = i ∧ l = .d d) ∨ ((∀ t ∈ ts, t.2 ≠ i) ∧ σ.at i = some l)
  | [], [], σ, i, l, _, h => by exact .inr ⟨fun _ m => (nomatch m), h⟩
  | t :: ts, d :: ds, σ, i, l, hl, h => by
    have hl' : ts.length = ds.length := by simpa using hl
    rcases at_putMany (ts := ts) hl' (show (putMany ts ds (σ.put t.2 (.d d))).at i = some l from h) with ⟨j, t', d', e1, e2, e3, e4⟩ | ⟨h1, h2⟩
    · exact .inl ⟨j + 1, t', d', by simpa using e1, by simpa using e2, e3, e4⟩
    · rcases at_put h2 with ⟨e1, e2⟩ | ⟨e1, e2⟩
      · exact .inl ⟨0, t, d, rfl, rfl, e1.symm, e2⟩
      · exact .inr ⟨fun t' ht => (List.mem_cons.mp ht).elim (fun q => q ▸ Ne.symm e1) (h1 t'), e2⟩
  | [], _ :: _, _, _, _, hl, _ => by simp at hl
  | _ :: _, [], _, _, _, hl, _ => by simp at hl
end Mine
end
section
open PySem PySem.W PySem.Calls PyProof.Rows
set_option Elab.async false
set_option maxRecDepth 100000
namespace Mine
noncomputable def clF (cells : List (Str × Addr)) : List (Str × NameKind) → List (Str × Addr) → List (Str × Addr)
  | [], acc => acc
  | x :: r, acc => clF cells r (if x.2 == .free then (x.1, (cells.lookup x.1).getD 0) :: acc else acc)
noncomputable def clStep (env : Env) (x : Str × NameKind) (r : List (Str × Addr)) : Sem (ForInStep (List (Str × Addr))) :=
  if (x.2 == NameKind.free) = true then (do let c ← cellOf env x.1; pure (ForInStep.yield ((x.1, c) :: r))) else pure (ForInStep.yield r)
theorem closure_go (env : Env) : ∀ (names : List (Str × NameKind)) (acc : List (Str × Addr)), (∀ x ∈ names, x.2 = .free → (env.cells.lookup x.1).isSome = true) →
    (forIn names acc (clStep env) : Sem (List (Str × Addr))) = pure (clF env.cells names acc)
  | [], acc, _ => by simp [clF]
  | (n, kd) :: r, acc, h => by
    have ih := closure_go env r
    rw [List.forIn_cons]
    by_cases hk : kd = .free
    · subst hk
      obtain ⟨c, hc⟩ := Option.isSome_iff_exists.mp (h (n, .free) (List.mem_cons_self ..) rfl)
      have h1 : clStep env (n, .free) acc = pure (ForInStep.yield ((n, c) :: acc)) := by
        have : cellOf env n = pure c := by unfold cellOf; rw [hc]
        simp [clStep, this]
      rw [h1, pure_bind]
      show (forIn r ((n, c) :: acc) (clStep env) : Sem (List (Str × Addr))) = _
      rw [ih _ fun x hx => h x (List.mem_cons_of_mem _ hx)]
      simp [clF, hc]
    · have hb : (kd == NameKind.free) = false := by simpa using hk
      have h1 : clStep env (n, kd) acc = pure (ForInStep.yield acc) := by simp [clStep, hb]
      rw [h1, pure_bind]
      show (forIn r acc (clStep env) : Sem (List (Str × Addr))) = _
      rw [ih _ fun x hx => h x (List.mem_cons_of_mem _ hx)]
      simp [clF, hb]
theorem closure_eq {env : Env} {sc : Scope} (h : ∀ x ∈ sc.names, x.2 = .free → (env.cells.lookup x.1).isSome = true) : closureFor sc env = pure (clF env.cells sc.names []) := by
  have e : closureFor sc env = (forIn sc.names [] (clStep env) >>= fun cs => pure cs) := rfl
  rw [e, closure_go env _ _ h]; rfl
theorem clF_lookup (cells : List (Str × Addr)) : ∀ (names : List (Str × NameKind)) (acc : List (Str × Addr)) (y : Str), (∀ c, acc.lookup y = some c → cells.lookup y = some c) → (∀ x ∈ names, x.2 = .free → (cells.lookup x.1).isSome = true) →
    ((y, NameKind.free) ∈ names ∨ (acc.lookup y).isSome = true) → (clF cells names acc).lookup y = cells.lookup y
  | [], acc, y, h1, _, h3 => by
    rcases h3 with h3 | h3
    · cases h3
    · obtain ⟨c, hc⟩ := Option.isSome_iff_exists.mp h3
      show acc.lookup y = _
      rw [hc, h1 c hc]
  | (n, kd) :: r, acc, y, h1, h2, h3 => by
    have h2' : ∀ x ∈ r, x.2 = .free → (cells.lookup x.1).isSome = true := fun x hx => h2 x (List.mem_cons_of_mem _ hx)
    by_cases hk : kd = .free
    · subst hk
      obtain ⟨c, hc⟩ := Option.isSome_iff_exists.mp (h2 (n, .free) (List.mem_cons_self ..) rfl)
      have hc' : cells.lookup n = some c := hc
      show (clF cells r (if (NameKind.free == NameKind.free) = true then _ else _)).lookup y = _
      simp only [beq_self_eq_true, if_true]
      refine clF_lookup cells r _ y (fun c' q => ?_) h2' ?_
      · rw [List.lookup_cons] at q
        cases hy : y == n with
        | true => rw [hy] at q; simp only at q; cases q; rw [eq_of_beq hy, hc']; rfl
        | false => rw [hy] at q; exact h1 c' q
      · by_cases hy : y = n
        · subst hy; right; simp [List.lookup_cons]
        · have hb : (y == n) = false := by simpa using hy
          rcases h3 with h3 | h3
          · rcases List.mem_cons.mp h3 with q | q
            · cases q; exact absurd rfl hy
            · exact .inl q
          · right; rw [List.lookup_cons, hb]; exact h3
    · have hb : (kd == NameKind.free) = false := by simpa using hk
      show (clF cells r (if (kd == NameKind.free) = true then _ else _)).lookup y = _
      simp only [hb, Bool.false_eq_true, if_false]
      refine clF_lookup cells r _ y h1 h2' ?_
      rcases h3 with h3 | h3
      · rcases List.mem_cons.mp h3 with q | q
        · cases q; exact absurd rfl hk
        · exact .inl q
      · exact .inr h3
section
variable {prog : Program} {w : World} {A : Around} {P : Addr → Prop} {s : Shared} {env : Env}
theorem assignEach_names : ∀ xs : List (Str × Nat × Pos), assignEach (xs.map fun x => Expr.Name x.1 x.2.2) env = xs.map fun x => (false, assign (.Name x.1 x.2.2) env)
  | [] => rfl
  | x :: xs => by
    show (false, assign (.Name x.1 x.2.2) env) :: assignEach (xs.map fun x => Expr.Name x.1 x.2.2) env = _
    rw [assignEach_names xs]; rfl
theorem store_locals (hp : (env.scope.kind == .class || (env.scope.kind == .module && env.locals != env.globals)) = false) {Q : Unit → Shared → Prop} :
    ∀ (xs : List (Str × Nat × Pos)) (vs : List Value) (s : Shared) (m : Str → Option Value), xs.length = vs.length → (∀ x ∈ xs, env.kindOf x.1 = some .local) → s.heap.Ns env.locals m →
    (∀ h' tk, h'.Ns env.locals (bindNames (xs.map fun x => (x.1, x.2.1)) vs m) → Heap.SameBut env.locals s.heap h' → Q () { s with heap := h', toks := tk }) →
    wpAny (model prog w) A (assignInOrder (xs.map fun x => assign (.Name x.1 x.2.2) env) vs) Q NoE s
  | [], [], s, m, _, _, hn, q => wpAny_pure (q s.heap s.toks hn (.refl ..))
  | x :: xs, v :: vs, s, m, hl, hk, hn, q => by
    refine wpAny_bind (wpAny_holding (wpAny_assign_Name (wpAny_storeName_local (hk x (List.mem_cons_self ..)) hn (fun h₁ hn₁ hs₁ => ?_) hp)))
    refine store_locals hp xs vs _ _ (by simpa using hl) (fun y hy => hk y (List.mem_cons_of_mem _ hy)) hn₁ fun h' tk hn' hs' => ?_
    exact q h' tk hn' (hs₁.trans hs')
  | [], _ :: _, _, _, hl, _, _, _ => by simp at hl
  | _ :: _, [], _, _, hl, _, _, _ => by simp at hl
theorem assign_local {t : Tgt} {d : PyData} {ds : List PyData} {v : Value} {m : Str → Option Value} {Q : Unit → Shared → Prop} (hh : A.handled = none) (hp : (env.scope.kind == .class || (env.scope.kind == .module && env.locals != env.globals)) = false)
    (hk : ∀ x ∈ t.names, env.kindOf x.1 = some .local) (hn : s.heap.Ns env.locals m) (hv : RV P s.heap d v) (hd : t.vals d = some ds)
    (q : ∀ vs h' tk, vs.length = ds.length → t.names.length = ds.length → RVs P s.heap ds vs → h'.Ns env.locals (bindNames t.names vs m) → Heap.ExtBut env.locals s.heap h' → Q () { s with heap := h', toks := tk }) :
    wpAny (model prog w) A (assign t.ast env v) Q NoE s := by
  cases t with
  | one x i p =>
    cases hd
    refine wpAny_assign_Name (wpAny_storeName_local (hk (x, i) (by simp [Tgt.names])) hn (fun h₁ hn₁ hs₁ => ?_) hp)
    exact q [v] h₁ _ rfl rfl (RVs.cons hv RVs.nil) hn₁ hs₁.extBut
  | tup xs kk p =>
    cases d with
    | tuple es =>
      simp only [Tgt.vals] at hd
      split at hd
      · rename_i hl
        cases hd
        obtain ⟨a, vs, rfl, _, ht, hr⟩ := hv.inv_tuple
        have hlen := hr.length
        have e1 : (xs.map fun x => ((false, assign (.Name x.1 x.2.2) env) : Bool × (Value → Sem Unit))).findIdx? (·.1) = none := by
          rw [List.findIdx?_eq_none_iff]; intro y hy; obtain ⟨z, _, rfl⟩ := List.mem_map.mp hy; rfl
        refine assign_Tuple_tuple hh ht (by rw [assignEach_names]; simp [hlen, hl]) (by rw [assignEach_names]; exact e1) fun h₀ he₀ => ?_
        rw [assignEach_names, List.map_map]
        have hne : env.locals ≠ s.heap.objs.size := by obtain ⟨o, _, _, ho, _⟩ := hn; exact Nat.ne_of_lt (Heap.lt_size ho)
        refine store_locals hp xs vs _ m (by rw [hlen, hl]) (fun y hy => hk (y.1, y.2.1) (List.mem_map.mpr ⟨y, hy, rfl⟩)) (hn.extBut he₀ hne) fun h' tk hn' hs' => ?_
        refine q vs h' tk hlen (by simp [Tgt.names, hl]) hr hn' fun b o hb e => hs'.extBut b o hb (he₀ b o (Nat.ne_of_lt (Heap.lt_size e)) e)
      · cases hd
    | _ => cases hd
end
end Mine
end
section
open PySem PySem.W PySem.Calls PyProof.Rows
set_option Elab.async false
set_option maxRecDepth 100000
namespace Mine
theorem lookup_mem {α β : Type} [BEq α] [LawfulBEq α] : ∀ {l : List (α × β)} {x : α} {i : β}, l.lookup x = some i → (x, i) ∈ l
  | [], _, _, h => by simp at h
  | (y, j) :: r, x, i, h => by
    rw [List.lookup_cons] at h
    cases hb : x == y with
    | true => rw [hb] at h; simp only at h; cases h; rw [eq_of_beq hb]; exact List.mem_cons_self ..
    | false => rw [hb] at h; exact List.mem_cons_of_mem _ (lookup_mem h)
theorem gather_snoc {f : PyData → Option (List PyData)} : ∀ {l : List PyData} {d : PyData} {x a : List PyData}, gather f l = some x → f d = some a → gather f (l ++ [d]) = some (x ++ a)
  | [], d, x, a, h, e => by cases h; simp [gather, e]
  | v :: r, d, x, a, h, e => by
    unfold gather at h
    split at h
    · cases h
    · rename_i p hp
      split at h
      · cases h
      · rename_i q hq
        cases h
        have := gather_snoc hq e
        simp only [List.cons_append, gather, hp, this, List.append_assoc]
theorem gather_get {f : PyData → Option (List PyData)} : ∀ {l : List PyData} {x : List PyData} {i : Nat} {d : PyData}, gather f l = some x → l[i]? = some d → ∃ a, f d = some a
  | [], _, _, _, _, e => by simp at e
  | v :: r, x, i, d, h, e => by
    unfold gather at h
    split at h
    · cases h
    · rename_i p hp
      split at h
      · cases h
      · rename_i q hq
        cases i with
        | zero => simp at e; subst e; exact ⟨p, hp⟩
        | succ j => exact gather_get hq (by simpa using e)
theorem cellsFrom_app : ∀ (names : List (Str × NameKind)) (n : Nat) (acc : List (Str × Addr)), cellsFrom n names acc = cellsFrom n names [] ++ acc
  | [], _, _ => rfl
  | (x, kd) :: r, n, acc => by
    unfold cellsFrom
    split
    · rw [cellsFrom_app r (n + 1) ((x, n) :: acc), cellsFrom_app r (n + 1) [(x, n)], List.append_assoc]; rfl
    · exact cellsFrom_app r n acc
theorem cellsFrom_mem : ∀ (names : List (Str × NameKind)) (n : Nat) {x : Str} {c : Addr}, (x, c) ∈ cellsFrom n names [] → (x, NameKind.cell) ∈ names
  | [], _, _, _, h => by simp [cellsFrom] at h
  | (y, kd) :: r, n, x, c, h => by
    unfold cellsFrom at h
    split at h
    · rename_i hk
      rw [cellsFrom_app] at h
      rcases List.mem_append.mp h with h | h
      · exact List.mem_cons_of_mem _ (cellsFrom_mem r _ h)
      · simp only [List.mem_cons, List.not_mem_nil, or_false, Prod.mk.injEq] at h
        rw [h.1, eq_of_beq hk]; exact List.mem_cons_self ..
    · exact List.mem_cons_of_mem _ (cellsFrom_mem r _ h)
theorem cellsFrom_some : ∀ (names : List (Str × NameKind)) (n : Nat) {x : Str}, (x, NameKind.cell) ∈ names → ∃ c, (cellsFrom n names []).lookup x = some c
  | (y, kd) :: r, n, x, h => by
    have step : ∀ m, (∃ c, (cellsFrom m r []).lookup x = some c) ∨ (x = y ∧ kd = .cell) := fun m => by
      rcases List.mem_cons.mp h with h | h
      · cases h; exact .inr ⟨rfl, rfl⟩
      · exact .inl (cellsFrom_some r m h)
    unfold cellsFrom
    split
    · rw [cellsFrom_app, List.lookup_append]
      rcases step (n + 1) with ⟨c, hc⟩ | ⟨rfl, _⟩
      · rw [hc]; exact ⟨c, rfl⟩
      · cases q : (cellsFrom (n + 1) r []).lookup x with
        | some c => exact ⟨c, rfl⟩
        | none => exact ⟨n, by simp [List.lookup_cons]⟩
    · rename_i hk
      rcases step n with hc | ⟨_, rfl⟩
      · exact hc
      · exact absurd rfl hk
structure OwnOk (names : List (Str × NameKind)) (oc : List (Str × Addr)) : Prop where
  mem : ∀ x c, oc.lookup x = some c → (x, .cell) ∈ names
  all : ∀ x, (x, .cell) ∈ names → ∃ c, oc.lookup x = some c
  inj : ∀ x y c, oc.lookup x = some c → oc.lookup y = some c → x = y
noncomputable def plIn (sc : Scope) (oc : List (Str × Addr)) (C : Addr) (ts : List (Str × Nat)) (pl : Nat → Place) (j : Nat) : Place := match ts.find? (fun t => t.2 == j) with
  | some t => if sc.names.lookup t.1 = some .local then .ns C t.1 else .cell ((oc.lookup t.1).getD 0)
  | none => pl j
theorem find_mem {ts : List (Str × Nat)} {t : Str × Nat} : (ts.map (·.2)).Nodup → t ∈ ts → ts.find? (fun u => u.2 == t.2) = some t := by
  induction ts with
  | nil => intro _ h; cases h
  | cons t' ts ih =>
    intro hn hm
    simp only [List.map_cons, List.nodup_cons] at hn
    rw [List.find?_cons]
    rcases List.mem_cons.mp hm with rfl | hm
    · simp
    · have hne : (t'.2 == t.2) = false := by
        have : t'.2 ≠ t.2 := fun e => hn.1 (e ▸ List.mem_map_of_mem hm)
        simpa using this
      rw [hne]
      exact ih hn.2 hm
theorem plIn_local {sc : Scope} {oc : List (Str × Addr)} {C : Addr} {pl : Nat → Place} {ts : List (Str × Nat)} {t : Str × Nat} (hn : (ts.map (·.2)).Nodup) (hm : t ∈ ts) (hl : sc.names.lookup t.1 = some .local) : plIn sc oc C ts pl t.2 = .ns C t.1 := by
  unfold plIn; rw [find_mem hn hm]; exact if_pos hl
theorem plIn_cell {sc : Scope} {oc : List (Str × Addr)} {C c : Addr} {pl : Nat → Place} {ts : List (Str × Nat)} {t : Str × Nat} (hn : (ts.map (·.2)).Nodup) (hm : t ∈ ts) (hl : sc.names.lookup t.1 = some .cell) (hc : oc.lookup t.1 = some c) : plIn sc oc C ts pl t.2 = .cell c := by
  unfold plIn; rw [find_mem hn hm]; simp only; rw [if_neg (by rw [hl]; decide), hc]; rfl
theorem plIn_not {sc : Scope} {oc : List (Str × Addr)} {C : Addr} {pl : Nat → Place} {ts : List (Str × Nat)} {j : Nat} (h : ∀ t ∈ ts, t.2 ≠ j) : plIn sc oc C ts pl j = pl j := by
  unfold plIn
  have : ts.find? (fun t => t.2 == j) = none := by
    rw [List.find?_eq_none]; intro t ht; simpa using h t ht
  rw [this]
theorem lookup_relabel_cell {env : Env} : ∀ {names : List (Str × NameKind)} {x : Str}, names.lookup x = some .cell →
    (names.map fun (n, k) => if (k == NameKind.free && env.scope.kind == .function && env.kindOf n == some .cell) then (n, NameKind.cell) else (n, k)).lookup x = some .cell
  | [], _, h => by simp at h
  | (n, k) :: r, x, h => by
    have ih := @lookup_relabel_cell env r x
    show List.lookup x ((if (k == NameKind.free && env.scope.kind == .function && env.kindOf n == some .cell) = true then (n, NameKind.cell) else (n, k)) :: _) = _
    cases hx : x == n with
    | true =>
      simp only [List.lookup_cons, hx] at h
      cases h
      simp [List.lookup_cons, hx]
    | false =>
      simp only [List.lookup_cons, hx] at h
      by_cases hc : (k == NameKind.free && env.scope.kind == .function && env.kindOf n == some .cell) = true
      · rw [if_pos hc]; simp only [List.lookup_cons, hx]; exact ih h
      · rw [if_neg hc]; simp only [List.lookup_cons, hx]; exact ih h
theorem relabel_names {env : Env} {sc : Scope} (hk : env.scope.kind = .function) : (relabel sc env).names = inner env.scope.names sc := by
  unfold relabel inner
  simp only [hk, beq_self_eq_true, Bool.and_true]
  rfl
theorem inner_free {names : List (Str × NameKind)} : ∀ {l : List (Str × NameKind)} {x : Str}, l.lookup x = some .free →
    (l.map fun (n, k) => if (k == NameKind.free && names.lookup n == some .cell) then (n, NameKind.cell) else (n, k)).lookup x = some .cell ∨
    (l.map fun (n, k) => if (k == NameKind.free && names.lookup n == some .cell) then (n, NameKind.cell) else (n, k)).lookup x = some .free
  | [], _, h => by simp at h
  | (n, k) :: r, x, h => by
    have ih := @inner_free names r x
    show List.lookup x ((if (k == NameKind.free && names.lookup n == some .cell) = true then (n, NameKind.cell) else (n, k)) :: _) = _ ∨ List.lookup x ((if (k == NameKind.free && names.lookup n == some .cell) = true then (n, NameKind.cell) else (n, k)) :: _) = _
    cases hx : x == n with
    | true =>
      simp only [List.lookup_cons, hx] at h
      cases h
      by_cases hc : (names.lookup n == some .cell) = true
      · left; simp [List.lookup_cons, hx, hc]
      · right; simp [List.lookup_cons, hx, hc]
    | false =>
      simp only [List.lookup_cons, hx] at h
      by_cases hc : (k == NameKind.free && names.lookup n == some .cell) = true
      · rw [if_pos hc]; simp only [List.lookup_cons, hx]; exact ih h
      · rw [if_neg hc]; simp only [List.lookup_cons, hx]; exact ih h
structure CompOk (names : List (Str × NameKind)) (sm : List (Str × Nat)) (sc : Scope) (sm' ts : List (Str × Nat)) : Prop where
  kind : sc.kind = .function
  cell : ∀ x ∈ sc.names, x.2 = .cell → (∃ t ∈ ts, t.1 = x.1) ∧ sc.names.lookup x.1 = some .cell
  loc : ∀ x ∈ sc.names, x.2 = .local → sc.names.lookup x.1 = some .local
  free : ∀ x ∈ sc.names, x.2 = .free → sc.names.lookup x.1 = some .free ∧ (names.lookup x.1 = some .cell ∨ names.lookup x.1 = some .free) ∧ (sm.lookup x.1).isSome = true
  tgt : ∀ t ∈ ts, sc.names.lookup t.1 = some .local ∨ sc.names.lookup t.1 = some .cell
  smIn : ∀ x ∈ sm', x ∈ ts ∨ (sc.names.lookup x.1 = some .free ∧ sm.lookup x.1 = some x.2 ∧ ∀ t ∈ ts, t.2 ≠ x.2)
  nd1 : (ts.map (·.1)).Nodup
  nd2 : (ts.map (·.2)).Nodup
theorem compOk_of {names : List (Str × NameKind)} {sm : List (Str × Nat)} {sc : Scope} {sm' ts : List (Str × Nat)} (h : compOk names sm sc sm' ts = true) : CompOk names sm sc sm' ts := by
  simp only [compOk, Bool.and_eq_true, beq_iff_eq, List.all_eq_true, bne_iff_ne, Bool.or_eq_true, decide_eq_true_eq, List.contains_iff_mem, Bool.not_eq_true'] at h
  obtain ⟨⟨⟨⟨⟨⟨⟨⟨h1, h2⟩, h3⟩, h4⟩, h5⟩, h6⟩, h7⟩, h8⟩, h9⟩ := h
  refine ⟨h1, fun x hx e => ?_, fun x hx e => (h3 x hx).resolve_left fun q => q e, fun x hx e => ?_, h5, fun x hx => ?_, h8, h9⟩
  · obtain ⟨q1, q2⟩ := (h2 x hx).resolve_left fun q => q e
    obtain ⟨t, ht, q3⟩ := List.mem_map.mp q1
    exact ⟨⟨t, ht, q3⟩, q2⟩
  · obtain ⟨⟨q1, q2⟩, q3⟩ := (h4 x hx).resolve_left fun q => q e
    exact ⟨q1, q2, q3⟩
  rcases h6 x hx with q | q
  · exact .inl q
  · refine .inr ⟨q.1.1, q.1.2, fun t ht e => ?_⟩
    have := q.2
    rw [← e] at this
    have hm : t.2 ∈ ts.map (·.2) := List.mem_map_of_mem ht
    rw [← List.contains_iff_mem] at hm
    rw [hm] at this; cases this
section
variable {hB : Heap} {env : Env} {pl : Nat → Place} {sm sm' ts : List (Str × Nat)} {σ : Loc} {P : Addr → Prop} {A : Around} {k : Nat} {s : Shared} {sc : Scope} {C : Addr} {oc : List (Str × Addr)}
theorem CompOk.cells (O : CompOk env.scope.names sm sc sm' ts) (H : Here env pl sm σ hB P A k s) : ∀ x ∈ sc.names, x.2 = .free → (env.cells.lookup x.1).isSome = true := by
  intro x hx e
  obtain ⟨_, h1, h2⟩ := O.free x hx e
  obtain ⟨i, hi⟩ := Option.isSome_iff_exists.mp h2
  rcases H.envOk x.1 i hi with ⟨q, _⟩ | ⟨_, c, hc, _⟩
  · have q' : env.scope.names.lookup x.1 = some .local := q
    rcases h1 with h1 | h1 <;> (rw [h1] at q'; cases q')
  · rw [hc]; rfl
noncomputable abbrev cenv (sc : Scope) (oc : List (Str × Addr)) (C : Addr) (env : Env) : Env := compEnvC sc (oc ++ clF env.cells sc.names []) C env
theorem CompOk.envIn (O : CompOk env.scope.names sm sc sm' ts) (N : OwnOk sc.names oc) (H : Here env pl sm σ hB P A k s) : EnvOk (cenv sc oc C env) (plIn sc oc C ts pl) sm' := by
  intro x i hx
  have hrel : (relabel sc env).names = inner env.scope.names sc := relabel_names H.kind
  rcases O.smIn (x, i) (lookup_mem hx) with h1 | ⟨h1, h2, h3⟩
  · rcases O.tgt _ h1 with h2 | h2
    · exact .inl ⟨lookup_relabel_local h2, plIn_local O.nd2 h1 h2⟩
    · obtain ⟨c, hc⟩ := N.all x (lookup_mem h2)
      exact .inr ⟨.inl (lookup_relabel_cell h2), c, by show List.lookup x (oc ++ _) = _; rw [List.lookup_append, hc]; rfl, plIn_cell O.nd2 h1 h2 hc⟩
  · right
    have hfree := lookup_mem h1
    obtain ⟨_, h4, _⟩ := O.free _ hfree rfl
    refine ⟨?_, ?_⟩
    · show (relabel sc env).names.lookup x = _ ∨ (relabel sc env).names.lookup x = _
      rw [hrel]
      exact inner_free h1
    · rw [plIn_not h3]
      rcases H.envOk x i h2 with ⟨q, _⟩ | ⟨_, c, hc, hp⟩
      · have q' : env.scope.names.lookup x = some .local := q
        rcases h4 with h4 | h4 <;> (rw [h4] at q'; cases q')
      · have no : oc.lookup x = none := by
          cases q : oc.lookup x with
          | none => rfl
          | some c' =>
            have := (O.cell _ (N.mem x c' q) rfl).2
            rw [h1] at this; cases this
        refine ⟨c, ?_, hp⟩
        show List.lookup x (oc ++ _) = _
        rw [List.lookup_append, no]
        exact (clF_lookup env.cells sc.names [] x (fun c q => by simp at q) (O.cells H) (.inl hfree)).trans hc
end
end Mine
end
section
open PySem PySem.W PySem.Calls PyProof.Rows
set_option Elab.async false
set_option maxRecDepth 100000
namespace Mine
noncomputable def turnLast (e : Expr) (d : Nat) (target iter : Expr) (ifs : List Expr) (elt : Expr) (it acc : Value) (env : Env) : Sem Fin := do
  standAt iter.pos
  match ← pyNext it with
  | none => pure (.done .next)
  | some v =>
    letOwnedTupleGo target it v
    assign target env v
    let mut ok := true
    for c in ifs do
      if ok then ok ← isTrue c env (eval c env)
    if ok then
      (do let _ ← call (.builtin "list.append") [acc, ← eval elt env])
    again (.compLoop e d it acc env)
noncomputable def turnFirst (e : Expr) (target iter iter2 : Expr) (it acc : Value) (env : Env) : Sem Fin := do
  standAt iter.pos
  match ← pyNext it with
  | none => pure (.done .next)
  | some v =>
    letOwnedTupleGo target it v
    assign target env v
    let x ← eval iter2 env
    standAt iter2.pos
    let x ← foldedSetIterable iter2 env x
    let _ ← runOwn (.compStart e 1 (← holding [x] (pyIter x)) acc env) env
    again (.compLoop e 0 it acc env)
theorem turn_last0 (elt target iter : Expr) (ifs : List Expr) (sc : Scope) (p : Pos) (it acc : Value) (env : Env) :
    compTurn (.ListComp elt [⟨target, iter, ifs, 0⟩] sc p) 0 it acc env = turnLast (.ListComp elt [⟨target, iter, ifs, 0⟩] sc p) 0 target iter ifs elt it acc env := by rfl
theorem turn_last1 (elt : Expr) (g : Comprehension) (target iter : Expr) (ifs : List Expr) (sc : Scope) (p : Pos) (it acc : Value) (env : Env) :
    compTurn (.ListComp elt [g, ⟨target, iter, ifs, 0⟩] sc p) 1 it acc env = turnLast (.ListComp elt [g, ⟨target, iter, ifs, 0⟩] sc p) 1 target iter ifs elt it acc env := by rfl
theorem turn_first (elt target iter target2 iter2 : Expr) (ifs : List Expr) (sc : Scope) (p : Pos) (it acc : Value) (env : Env) :
    compTurn (.ListComp elt [⟨target, iter, [], 0⟩, ⟨target2, iter2, ifs, 0⟩] sc p) 0 it acc env = turnFirst (.ListComp elt [⟨target, iter, [], 0⟩, ⟨target2, iter2, ifs, 0⟩] sc p) target iter iter2 it acc env := by rfl
section
variable {prog : Program} {w : World} {A : Around} {E : Value → Shared → Prop} {R : Result → Shared → Prop} {s : Shared}
theorem loop_last {gens : List Comprehension} {sc : Scope} {p : Pos} {d : Nat} {target iter elt : Expr} {ifs : List Expr} {it acc : Value} {env : Env} (hturn : compTurn (.ListComp elt gens sc p) d it acc env = turnLast (.ListComp elt gens sc p) d target iter ifs elt it acc env) (I : Nat → Shared → Prop)
    (turn : ∀ n s, I n s → wpAny (model prog w) A (pyNext it) (fun r s₁ => match r with
      | none => R (.ok .next) s₁
      | some v => wpAny (model prog w) A (letOwnedTupleGo target it v) (fun _ s₁' => wpAny (model prog w) A (assign target env v) (fun _ s₂ =>
          wpAny (model prog w) A (forIn ifs true fun c r => if r = true then do let ok ← isTrue c env (eval c env); pure (ForInStep.yield ok) else pure (ForInStep.yield r)) (fun ok s₃ =>
            if ok = true then wpAny (model prog w) A (eval elt env) (fun x s₄ =>
              wpAny (model prog w) A (call (.builtin "list.append") [acc, x]) (fun _ s₅ => ∃ m, m < n ∧ I m s₅) NoE s₄) NoE s₃
            else ∃ m, m < n ∧ I m s₃) NoE s₂) NoE s₁') NoE s₁) NoE s)
    (n : Nat) (h : I n s) :
    codeAny (model prog w) A (.compLoop (.ListComp elt gens sc p) d it acc env) R s := by
  refine codeAny_loop rfl I (fun n s hI => ?_) n h
  show wpAny _ A ((compTurn (.ListComp elt gens sc p) d it acc env).onRaise (fun x => do noteFrame x env; theTreesLotGoes x)) _ _ s
  refine wpAny_noted ?_
  rw [hturn]
  unfold turnLast
  refine wpAny_bind (wpAny_standAt (wpAny_bind (wp_noE (wpAny_mono (turn n s hI) (fun r s₁ h₁ => ?_) fun _ _ h' => h'))))
  cases r with
  | none => exact wpAny_pure h₁
  | some v =>
    refine wpAny_bind (wp_noE (wpAny_mono h₁ (fun _ s₁' h₁' => ?_) fun _ _ h' => h'))
    refine wpAny_bind (wp_noE (wpAny_mono h₁' (fun _ s₂ h₂ => ?_) fun _ _ h' => h'))
    refine wpAny_bind (wp_noE (wpAny_mono h₂ (fun ok s₃ h₃ => ?_) fun _ _ h' => h'))
    cases ok with
    | false => exact wpAny_pure ⟨rfl, by simpa using h₃⟩
    | true =>
      simp only [if_true] at h₃ ⊢
      exact wpAny_bind (wpAny_bind (wp_noE (wpAny_mono h₃ (fun x s₄ h₄ => wpAny_bind (wp_noE (wpAny_mono h₄ (fun _ s₅ h₅ => wpAny_pure (wpAny_pure ⟨rfl, h₅⟩)) fun _ _ h' => h'))) fun _ _ h' => h')))
theorem loop_first {elt : Expr} {gens : List Comprehension} {sc : Scope} {p : Pos} {target iter iter2 : Expr} {it acc : Value} {env : Env} (hturn : compTurn (.ListComp elt gens sc p) 0 it acc env = turnFirst (.ListComp elt gens sc p) target iter iter2 it acc env) (I : Nat → Shared → Prop)
    (turn : ∀ n s, I n s → wpAny (model prog w) A (pyNext it) (fun r s₁ => match r with
      | none => R (.ok .next) s₁
      | some v => wpAny (model prog w) A (letOwnedTupleGo target it v) (fun _ s₁' => wpAny (model prog w) A (assign target env v) (fun _ s₂ => wpAny (model prog w) A (eval iter2 env) (fun x s₃ => wpAny (model prog w) A (pyIter x) (fun it2 s₄ =>
          codeAny (model prog w) A (.compStart (.ListComp elt gens sc p) 1 it2 acc env) (fun r s₅ => r = .ok .next ∧ ∃ m, m < n ∧ I m s₅) s₄) NoE s₃) NoE s₂) NoE s₁') NoE s₁) NoE s)
    (n : Nat) (h : I n s) (hs : ∀ x, foldedSetIterable iter2 env x = pure x) :
    codeAny (model prog w) A (.compLoop (.ListComp elt gens sc p) 0 it acc env) R s := by
  refine codeAny_loop rfl I (fun n s hI => ?_) n h
  show wpAny _ A ((compTurn (.ListComp elt gens sc p) 0 it acc env).onRaise (fun x => do noteFrame x env; theTreesLotGoes x)) _ _ s
  refine wpAny_noted ?_
  rw [hturn]
  unfold turnFirst
  refine wpAny_bind (wpAny_standAt (wpAny_bind (wp_noE (wpAny_mono (turn n s hI) (fun r s₁ h₁ => ?_) fun _ _ h' => h'))))
  cases r with
  | none => exact wpAny_pure h₁
  | some v =>
    refine wpAny_bind (wp_noE (wpAny_mono h₁ (fun _ s₁' h₁' => ?_) fun _ _ h' => h'))
    refine wpAny_bind (wp_noE (wpAny_mono h₁' (fun _ s₂ h₂ => ?_) fun _ _ h' => h'))
    refine wpAny_bind (wp_noE (wpAny_mono h₂ (fun x s₃ h₃ => wpAny_bind (wpAny_standAt (wpAny_bind (wpAny_of_eq (hs x) ?_)))) fun _ _ h' => h'))
    refine wpAny_bind (wpAny_holding (wp_noE (wpAny_mono h₃ (fun it2 s₄ h₄ => ?_) fun _ _ h' => h')))
    refine wpAny_bind (wpAny_runOwn (codeAny_mono h₄ fun r s₅ h₅ => ?_))
    obtain ⟨rfl, h₅⟩ := h₅
    exact wpAny_pure ⟨rfl, h₅⟩
theorem start1 {elt : Expr} {g : Comprehension} {target iter : Expr} {ifs : List Expr} {scope : Scope} {pos : Pos} {it acc : Value} {env : Env}
    (h0 : codeAny (model prog w) A (.compLoop (.ListComp elt [g, ⟨target, iter, ifs, 0⟩] scope pos) 1 it acc env) R s)
    (h : wpAny (model prog w) A (pyIter it) (fun it' s' => codeAny (model prog w) A (.compLoop (.ListComp elt [g, ⟨target, iter, ifs, 0⟩] scope pos) 1 it' acc env) R s') NoE s) :
    codeAny (model prog w) A (.compStart (.ListComp elt [g, ⟨target, iter, ifs, 0⟩] scope pos) 1 it acc env) R s := by
  refine codeAny_of_tree ?_
  show wpAny _ _ ((compStart (.ListComp elt [g, ⟨target, iter, ifs, 0⟩] scope pos) 1 it acc env).onRaise (fun x => do noteFrame x env; standAt theWindowsPlace)) _ _ s
  refine wpAny_notedAt ?_
  unfold compStart
  show wpAny _ _ (ask >>= _) _ _ s
  refine wpAny_bind (wpAny_askSetting (wpAny_ite ?_))
  split
  · first
      | exact wpAny_bind (wpAny_pure (wpAny_pure (And.intro rfl h0)))
      | exact wpAny_pure (And.intro rfl h0)
  · first
      | exact wpAny_bind (wpAny_rule (wpAny_bind (wpAny_standAt (wpAny_bind (wp_noE (wpAny_mono h (fun it' s' h' => wpAny_pure (And.intro rfl h')) fun _ _ x => x))))))
      | (refine wpAny_bind (wpAny_rule ?_); show wpAny _ _ (standAt iter.pos >>= _) _ _ s; exact wpAny_bind (wpAny_standAt (wpAny_bind (wp_noE (wpAny_mono h (fun it' s' h' => wpAny_pure (And.intro rfl h')) fun _ _ x => x)))))
end
end Mine
end
section
open PySem PySem.W PySem.Calls PyProof.Rows
set_option Elab.async false
set_option maxRecDepth 100000
namespace Mine
theorem ns_unique {h : Heap} {a : Addr} {m m' : Str → Option Value} (x : h.Ns a m) (y : h.Ns a m') : m = m' := by
  obtain ⟨o, es, ep, ho, hd, _, hf⟩ := x
  obtain ⟨o', es', ep', ho', hd', _, hf'⟩ := y
  rw [ho] at ho'; cases ho'
  rw [hd] at hd'; cases hd'
  funext n
  rw [← hf, ← hf']
theorem plain_not_ns {h : Heap} {a : Addr} {vs : Array Value} {m : Str → Option Value} (x : h.PlainList a vs) (y : h.Ns a m) : False := by
  obtain ⟨n, hp⟩ := x
  obtain ⟨o, es, ep, ho, hd, _⟩ := y
  rw [hp] at ho; cases ho; cases hd
theorem plain_not_cell {h : Heap} {a : Addr} {vs : Array Value} {v : Option Value} (x : h.PlainList a vs) (y : h.IsCell a v) : False := by
  obtain ⟨n, hp⟩ := x
  obtain ⟨o, ho, hd⟩ := y
  rw [hp] at ho; cases ho; cases hd
theorem cell_not_ns {h : Heap} {a : Addr} {v : Option Value} {m : Str → Option Value} (x : h.IsCell a v) (y : h.Ns a m) : False := by
  obtain ⟨o, ho, hd⟩ := x
  obtain ⟨o', es, ep, ho', hd', _⟩ := y
  rw [ho] at ho'; cases ho'; rw [hd] at hd'; cases hd'
noncomputable def Chg (X : Addr → Prop) (s s' : Shared) : Prop := (∃ h tk, s' = { s with heap := h, toks := tk }) ∧ ∀ b o, ¬ X b → s.heap.get? b = some o → s'.heap.get? b = some o
theorem Chg.kp {X : Addr → Prop} {s s' : Shared} (k : Kp s s') : Chg X s s' := by
  obtain ⟨h, t, rfl, e⟩ := k
  exact ⟨⟨_, _, rfl⟩, fun b o _ q => e b o q⟩
theorem Chg.refl {X : Addr → Prop} (s : Shared) : Chg X s s := ⟨⟨_, _, rfl⟩, fun _ _ _ q => q⟩
theorem Chg.trans {X : Addr → Prop} {s s' s'' : Shared} (a : Chg X s s') (b : Chg X s' s'') : Chg X s s'' := by
  obtain ⟨⟨h, t, rfl⟩, e⟩ := a
  obtain ⟨⟨h', t', rfl⟩, e'⟩ := b
  exact ⟨⟨_, _, rfl⟩, fun b o n q => e' b o n (e b o n q)⟩
theorem Chg.mono {X Y : Addr → Prop} {s s' : Shared} (a : Chg X s s') (h : ∀ b, X b → Y b) : Chg Y s s' := ⟨a.1, fun b o n q => a.2 b o (fun z => n (h b z)) q⟩
theorem gather_len {f : PyData → Option (List PyData)} : ∀ {l : List PyData} {x : List PyData} {j : Nat} {y : List PyData}, gather f l = some x → gather f (l.take j) = some y → y.length ≤ x.length
  | [], x, j, y, h, e => by rw [List.take_nil] at e; rw [h] at e; cases e; exact Nat.le_refl _
  | v :: r, x, 0, y, h, e => by cases e; exact Nat.zero_le _
  | v :: r, x, j + 1, y, h, e => by
    rw [List.take_succ_cons] at e
    unfold gather at h e
    split at h
    · cases h
    · rename_i p hp
      rw [hp] at e
      simp only at e
      split at h
      · cases h
      · rename_i q hq
        cases h
        split at e
        · cases e
        · rename_i q' hq'
          cases e
          have := gather_len hq hq'
          simp; omega
noncomputable def Cm (C : Addr) (oc : List (Str × Addr)) (a : Addr) : Prop := a = C ∨ ∃ x, oc.lookup x = some a
section
variable {prog : Program} {w : World} {hB : Heap} {Γ : Nat → List PyData → Option PyData} {hG : Hs}
  {env : Env} {pl : Nat → Place} {sm sm' ts : List (Str × Nat)} {σ : Loc} {P : Addr → Prop} {A : Around} {k : Nat} {sc : Scope} {oc : List (Str × Addr)} {C D : Addr} {s₁ : Shared}
noncomputable abbrev PB (P Mb : Addr → Prop) (a : Addr) : Prop := P a ∧ ¬ Mb a
structure Blk (pl : Nat → Place) (ts : List (Str × Nat)) (σ : Loc) (P : Addr → Prop) (sc : Scope) (oc : List (Str × Addr)) (C D : Addr) (s₁ : Shared) (Mb : Addr → Prop) (σb : Loc) (acc : List PyData) (s : Shared) : Prop where
  same : ∃ h tk, s = { s₁ with heap := h, toks := tk }
  kept : Ext s₁.heap s.heap
  ns : ∃ m, s.heap.Ns C m
  cells : ∀ x c, oc.lookup x = some c → ∃ v, s.heap.IsCell c v
  live : ∀ a, Mb a → ∃ o, s.heap.get? a = some o
  new : ∀ a, Mb a → s₁.heap.get? a = none
  mine : ∀ a, Cm C oc a → Mb a
  mD : Mb D
  acc : ∃ ys, s.heap.PlainList D (List.toArray ys) ∧ RVs (PB P Mb) s.heap acc ys
  tgt : ∀ t ∈ ts, ∀ l, σb.at t.2 = some l → ∃ d v, l = .d d ∧ At s.heap (plIn sc oc C ts pl t.2) v ∧ RV (PB P Mb) s.heap d v
  rest : ∀ j l, (∀ t ∈ ts, t.2 ≠ j) → σb.at j = some l → σ.at j = some l
variable {Mb Mb' : Addr → Prop} {σb : Loc} {acc : List PyData} {s s' : Shared}
theorem Blk.old (X : Blk pl ts σ P sc oc C D s₁ Mb σb acc s) : ∀ a o, P a → s₁.heap.get? a = some o → PB P Mb a := fun a o p q => ⟨p, fun m => by rw [X.new a m] at q; cases q⟩
theorem Blk.fresh (X : Blk pl ts σ P sc oc C D s₁ Mb σb acc s) (hf : Fresh P s₁.heap) : Fresh (PB P Mb) s.heap := fun a ha => ⟨hf.ext X.kept a ha, fun m => by obtain ⟨o, ho⟩ := X.live a m; rw [ha] at ho; cases ho⟩
theorem Blk.here (X : Blk pl ts σ P sc oc C D s₁ Mb σb acc s) (O : CompOk env.scope.names sm sc sm' ts) (N : OwnOk sc.names oc) (H : Here env pl sm σ hB P A k s₁) : Here (cenv sc oc C env) (plIn sc oc C ts pl) sm' σb hB (PB P Mb) A k s := by
  refine ⟨O.kind, H.globals, H.builtins, O.envIn N H, H.base.trans X.kept, H.room, X.fresh H.fresh, fun x i l hx hl => ?_⟩
  rcases O.smIn (x, i) (lookup_mem hx) with h1 | ⟨h1, h2, h3⟩
  · obtain ⟨d, v, rfl, a, r⟩ := X.tgt _ h1 l hl
    exact ⟨v, a, r⟩
  · obtain ⟨v, a, b⟩ := H.slots x i l h2 (X.rest i l h3 hl)
    rw [plIn_not h3]
    exact ⟨v, a.ext X.kept, b.mapx X.kept X.old⟩
theorem Blk.kp (X : Blk pl ts σ P sc oc C D s₁ Mb σb acc s) (kp : Kp s s') : Blk pl ts σ P sc oc C D s₁ Mb σb acc s' := by
  obtain ⟨h, t, rfl, e⟩ := kp
  obtain ⟨h0, t0, rfl⟩ := X.same
  refine { X with
    same := ⟨h, t, rfl⟩
    kept := X.kept.trans e
    ns := let ⟨m, hn⟩ := X.ns; ⟨m, hn.keeps e⟩
    cells := fun x c hc => let ⟨v, o, h1, h2⟩ := X.cells x c hc; ⟨v, o, e _ _ h1, h2⟩
    live := fun a m => let ⟨o, ho⟩ := X.live a m; ⟨o, e _ _ ho⟩
    acc := let ⟨ys, ⟨n, h1⟩, r⟩ := X.acc; ⟨ys, ⟨n, e _ _ h1⟩, r.keeps e⟩
    tgt := fun t ht l hl => let ⟨d, v, h1, h2, h3⟩ := X.tgt t ht l hl; ⟨d, v, h1, h2.ext e, h3.keeps e⟩ }
theorem Blk.drop {σc : Loc} (X : Blk pl ts σ P sc oc C D s₁ Mb σb acc s) (h : ∀ j l, σc.at j = some l → σb.at j = some l) : Blk pl ts σ P sc oc C D s₁ Mb σc acc s :=
  { X with tgt := fun t ht l hl => X.tgt t ht l (h _ _ hl), rest := fun j l hj hl => X.rest j l hj (h _ _ hl) }
theorem Blk.dc (X : Blk pl ts σ P sc oc C D s₁ Mb σb acc s) : D ≠ C ∧ ∀ x, oc.lookup x ≠ some D := by
  obtain ⟨ys, hp, _⟩ := X.acc
  obtain ⟨m, hn⟩ := X.ns
  exact ⟨fun q => plain_not_ns hp (q ▸ hn), fun x q => let ⟨v, hc⟩ := X.cells x D q; plain_not_cell hp hc⟩
theorem Blk.more {I : Addr} (X : Blk pl ts σ P sc oc C D s₁ Mb σb acc s) (kp : Kp s s') (hn : s.heap.get? I = none) (he : ∃ o, s'.heap.get? I = some o) : Blk pl ts σ P sc oc C D s₁ (fun a => Mb a ∨ a = I) σb acc s' := by
  have Y := X.kp kp
  have up : ∀ a o, PB P Mb a → s.heap.get? a = some o → PB P (fun a => Mb a ∨ a = I) a ∧ s'.heap.get? a = some o := fun a o p q => ⟨⟨p.1, fun z => z.elim p.2 fun z => by rw [z, hn] at q; cases q⟩, kp.ext a o q⟩
  have hI1 : s₁.heap.get? I = none := by
    cases q : s₁.heap.get? I with
    | none => rfl
    | some o => have := X.kept I o q; rw [hn] at this; cases this
  refine { Y with
    live := fun a m => m.elim (Y.live a) fun q => q ▸ he
    new := fun a m => m.elim (Y.new a) fun q => q ▸ hI1
    mine := fun a m => .inl (Y.mine a m)
    mD := .inl Y.mD
    acc := let ⟨ys, ⟨n, h1⟩, r⟩ := X.acc; ⟨ys, ⟨n, kp.ext _ _ h1⟩, r.map up⟩
    tgt := fun t ht l hl => let ⟨d, v, h1, h2, h3⟩ := X.tgt t ht l hl; ⟨d, v, h1, h2.ext kp.ext, h3.map up⟩ }
theorem Blk.less (X : Blk pl ts σ P sc oc C D s₁ Mb' σb acc s) (h : ∀ a, Mb a → Mb' a) (hm : ∀ a, Cm C oc a → Mb a) (hD : Mb D) : Blk pl ts σ P sc oc C D s₁ Mb σb acc s :=
  { X with
    live := fun a m => X.live a (h a m)
    new := fun a m => X.new a (h a m)
    mine := hm
    mD := hD
    acc := let ⟨ys, h1, r⟩ := X.acc; ⟨ys, h1, r.mono fun a p => ⟨p.1, fun m => p.2 (h a m)⟩⟩
    tgt := fun t ht l hl => let ⟨d, v, h1, h2, h3⟩ := X.tgt t ht l hl; ⟨d, v, h1, h2, h3.mono fun a p => ⟨p.1, fun m => p.2 (h a m)⟩⟩ }
theorem pl_tgt (O : CompOk env.scope.names sm sc sm' ts) (N : OwnOk sc.names oc) {t : Str × Nat} (ht : t ∈ ts) : (sc.names.lookup t.1 = some .local ∧ plIn sc oc C ts pl t.2 = .ns C t.1) ∨ ∃ c, sc.names.lookup t.1 = some .cell ∧ oc.lookup t.1 = some c ∧ plIn sc oc C ts pl t.2 = .cell c := by
  rcases O.tgt t ht with h | h
  · exact .inl ⟨h, plIn_local O.nd2 ht h⟩
  · obtain ⟨c, hc⟩ := N.all t.1 (lookup_mem h)
    exact .inr ⟨c, h, hc, plIn_cell O.nd2 ht h hc⟩
theorem nodup_fst : ∀ {l : List (Str × Nat)} {a b : Str × Nat}, (l.map (·.1)).Nodup → a ∈ l → b ∈ l → a.1 = b.1 → a = b
  | x :: r, a, b, hn, ha, hb, e => by
    simp only [List.map_cons, List.nodup_cons] at hn
    rcases List.mem_cons.mp ha with ha | ha <;> rcases List.mem_cons.mp hb with hb | hb
    · rw [ha, hb]
    · exact absurd (List.mem_map.mpr ⟨b, hb, by rw [← e, ha]⟩) hn.1
    · exact absurd (List.mem_map.mpr ⟨a, ha, by rw [e, hb]⟩) hn.1
    · exact nodup_fst hn.2 ha hb e
theorem Blk.beside {I : Addr} {h' : Heap} {tk : Nat} (O : CompOk env.scope.names sm sc sm' ts) (N : OwnOk sc.names oc) (X : Blk pl ts σ P sc oc C D s₁ Mb σb acc s) (hI : Mb I) (hIm : ¬ Cm C oc I) (hID : I ≠ D) (hk : ∀ b o, b ≠ I → s.heap.get? b = some o → h'.get? b = some o) (he : ∃ o, h'.get? I = some o) :
    Blk pl ts σ P sc oc C D s₁ Mb σb acc { s with heap := h', toks := tk } := by
  obtain ⟨h0, t0, rfl⟩ := X.same
  have hIC : C ≠ I := fun q => hIm (.inl q.symm)
  have hIc : ∀ x c, oc.lookup x = some c → c ≠ I := fun x c q z => hIm (.inr ⟨x, z ▸ q⟩)
  have eP : ExtP (PB P Mb) h0 h' := fun b o p q => hk b o (fun z => p.2 (z ▸ hI)) q
  refine { X with
    same := ⟨_, _, rfl⟩
    kept := fun b o q => hk b o (fun z => by rw [z, X.new I hI] at q; cases q) (X.kept b o q)
    ns := let ⟨m, hn⟩ := X.ns; ⟨m, hn.at' fun o e => hk _ o hIC e⟩
    cells := fun x c hc => let ⟨v, o, h1, h2⟩ := X.cells x c hc; ⟨v, o, hk _ _ (hIc x c hc) h1, h2⟩
    live := fun a m => by
      by_cases q : a = I
      · exact q ▸ he
      · obtain ⟨o, ho⟩ := X.live a m; exact ⟨o, hk a o q ho⟩
    acc := let ⟨ys, ⟨n, h1⟩, r⟩ := X.acc; ⟨ys, ⟨n, hk _ _ (Ne.symm hID) h1⟩, r.but eP⟩
    tgt := fun t ht l hl => ?_ }
  obtain ⟨d, v, h1, h2, h3⟩ := X.tgt t ht l hl
  refine ⟨d, v, h1, ?_, h3.but eP⟩
  rcases pl_tgt (C := C) (pl := pl) O N ht with ⟨_, q⟩ | ⟨c, _, q1, q⟩
  · rw [q] at h2 ⊢
    obtain ⟨m, hn, e⟩ := h2
    exact ⟨m, hn.at' fun o e => hk _ o hIC e, e⟩
  · rw [q] at h2 ⊢
    obtain ⟨o, z1, z2⟩ := h2
    exact ⟨o, hk _ _ (hIc _ _ q1) z1, z2⟩
theorem Blk.gone {I : Addr} {h' : Heap} {tk : Nat} (O : CompOk env.scope.names sm sc sm' ts) (N : OwnOk sc.names oc) (X : Blk pl ts σ P sc oc C D s₁ Mb' σb acc s) (hI : Mb' I) (hIm : ¬ Cm C oc I) (hID : I ≠ D) (hk : ∀ b o, b ≠ I → s.heap.get? b = some o → h'.get? b = some o)
    (h : ∀ a, Mb a → Mb' a ∧ a ≠ I) (hm : ∀ a, Cm C oc a → Mb a) (hD : Mb D) :
    Blk pl ts σ P sc oc C D s₁ Mb σb acc { s with heap := h', toks := tk } := by
  obtain ⟨h0, t0, rfl⟩ := X.same
  have hIC : C ≠ I := fun q => hIm (.inl q.symm)
  have hIc : ∀ x c, oc.lookup x = some c → c ≠ I := fun x c q z => hIm (.inr ⟨x, z ▸ q⟩)
  have eP : ∀ b o, PB P Mb' b → h0.get? b = some o → PB P Mb b ∧ h'.get? b = some o := fun b o p q => ⟨⟨p.1, fun m => p.2 (h b m).1⟩, hk b o (fun z => p.2 (z ▸ hI)) q⟩
  refine {
    same := ⟨_, _, rfl⟩
    kept := fun b o q => hk b o (fun z => by rw [z, X.new I hI] at q; cases q) (X.kept b o q)
    ns := let ⟨m, hn⟩ := X.ns; ⟨m, hn.at' fun o e => hk _ o hIC e⟩
    cells := fun x c hc => let ⟨v, o, h1, h2⟩ := X.cells x c hc; ⟨v, o, hk _ _ (hIc x c hc) h1, h2⟩
    live := fun a m => let ⟨o, ho⟩ := X.live a (h a m).1; ⟨o, hk a o (h a m).2 ho⟩
    new := fun a m => X.new a (h a m).1
    mine := hm
    mD := hD
    acc := let ⟨ys, ⟨n, h1⟩, r⟩ := X.acc; ⟨ys, ⟨n, hk _ _ (Ne.symm hID) h1⟩, r.map eP⟩
    rest := X.rest
    tgt := fun t ht l hl => ?_ }
  obtain ⟨d, v, h1, h2, h3⟩ := X.tgt t ht l hl
  refine ⟨d, v, h1, ?_, h3.map eP⟩
  rcases pl_tgt (C := C) (pl := pl) O N ht with ⟨_, q⟩ | ⟨c, _, q1, q⟩
  · rw [q] at h2 ⊢
    obtain ⟨m, hn, e⟩ := h2
    exact ⟨m, hn.at' fun o e => hk _ o hIC e, e⟩
  · rw [q] at h2 ⊢
    obtain ⟨o, z1, z2⟩ := h2
    exact ⟨o, hk _ _ (hIc _ _ q1) z1, z2⟩
theorem Blk.store {x : Str} {i : Nat} {d : PyData} {v : Value} (O : CompOk env.scope.names sm sc sm' ts) (N : OwnOk sc.names oc) (X : Blk pl ts σ P sc oc C D s₁ Mb σb acc s) (ht : (x, i) ∈ ts) (hv : RV (PB P Mb) s.heap d v) :
    wpAny (model prog w) A (storeName (cenv sc oc C env) x v) (fun _ s' => Blk pl ts σ P sc oc C D s₁ Mb (σb.put i (.d d)) acc s' ∧ Chg (Cm C oc) s s') NoE s := by
  obtain ⟨h0, t0, rfl⟩ := X.same
  have hk : (cenv sc oc C env).scope.kind = .function := O.kind
  have hp : ((cenv sc oc C env).scope.kind == .class || ((cenv sc oc C env).scope.kind == .module && (cenv sc oc C env).locals != (cenv sc oc C env).globals)) = false := by rw [hk]; rfl
  obtain ⟨m, hn⟩ := X.ns
  obtain ⟨hDC, hDc⟩ := X.dc
  have hCc : ∀ y c, oc.lookup y = some c → c ≠ C := fun y c q z => let ⟨u, hc⟩ := X.cells y c q; cell_not_ns hc (z ▸ hn)
  -- one place is changed
  have go : ∀ (c : Addr) (h' : Heap) (tk : Nat), Cm C oc c → Heap.SameBut c h0 h' → (∃ m', h'.Ns C m') → (∀ y b, oc.lookup y = some b → ∃ u, h'.IsCell b u) → (∃ o, h'.get? c = some o) → At h' (plIn sc oc C ts pl i) v →
      (∀ t ∈ ts, t.2 ≠ i → ∀ u, At h0 (plIn sc oc C ts pl t.2) u → At h' (plIn sc oc C ts pl t.2) u) →
      Blk pl ts σ P sc oc C D s₁ Mb (σb.put i (.d d)) acc { s₁ with heap := h', toks := tk } ∧ Chg (Cm C oc) ({ s₁ with heap := h0, toks := t0 } : Shared) { s₁ with heap := h', toks := tk } := by
    intro c h' tk hc hs hns hcs hce hat hoth
    have hk : ∀ b o, b ≠ c → h0.get? b = some o → h'.get? b = some o := fun b o h1 h2 => hs.extBut b o h1 h2
    have hMc := X.mine c hc
    have eP : ExtP (PB P Mb) h0 h' := fun b o p q => hk b o (fun z => p.2 (z ▸ hMc)) q
    refine ⟨{ X with
      same := ⟨_, _, rfl⟩
      kept := fun b o q => hk b o (fun z => by rw [z, X.new c hMc] at q; cases q) (X.kept b o q)
      ns := hns
      cells := hcs
      live := fun a m => by
        by_cases q : a = c
        · exact q ▸ hce
        · obtain ⟨o, ho⟩ := X.live a m; exact ⟨o, hk a o q ho⟩
      acc := let ⟨ys, ⟨n, h1⟩, r⟩ := X.acc; ⟨ys, ⟨n, hk _ _ (fun z => hc.elim (fun q => hDC (z.trans q)) fun ⟨y, q⟩ => hDc y (z ▸ q)) h1⟩, r.but eP⟩
      tgt := fun t ht' l hl => ?_
      rest := fun j l hj hl => ?_ }, ⟨_, _, rfl⟩, fun b o nb q => hk b o (fun z => nb (z ▸ hc)) q⟩
    · rcases at_put hl with ⟨e1, e2⟩ | ⟨e1, e2⟩
      · exact ⟨d, v, e2, e1 ▸ hat, hv.but eP⟩
      · obtain ⟨d', u, h1, h2, h3⟩ := X.tgt t ht' l e2
        exact ⟨d', u, h1, hoth t ht' e1 u h2, h3.but eP⟩
    · rcases at_put hl with ⟨e1, _⟩ | ⟨_, e2⟩
      · exact absurd e1.symm (hj _ ht)
      · exact X.rest j l hj e2
  rcases pl_tgt (C := C) (pl := pl) O N ht with ⟨hl, hpl⟩ | ⟨c, hl, hc, hpl⟩
  · refine wpAny_storeName_local (lookup_relabel_local hl) hn (fun h' hn' hs' => ?_) hp
    refine go C h' _ (.inl rfl) hs' ⟨_, hn'⟩ (fun y b hb => ?_) (let ⟨o, _, _, ho, _⟩ := hn'; ⟨o, ho⟩) (by rw [hpl]; exact ⟨_, hn', by simp⟩) fun t ht' hne u a => ?_
    · obtain ⟨u, o, h1, h2⟩ := X.cells y b hb
      exact ⟨u, o, hs'.extBut _ _ (hCc y b hb) h1, h2⟩
    · rcases pl_tgt (C := C) (pl := pl) O N ht' with ⟨_, q⟩ | ⟨c', _, q1, q⟩
      · rw [q] at a ⊢
        obtain ⟨m₂, hn₂, e⟩ := a
        rw [ns_unique hn₂ hn] at e
        have hne' : t.1 ≠ x := fun z => hne (by rw [nodup_fst O.nd1 ht' ht z])
        exact ⟨_, hn', by simp [hne', e]⟩
      · rw [q] at a ⊢
        obtain ⟨o, z1, z2⟩ := a
        exact ⟨o, hs'.extBut _ _ (hCc _ _ q1) z1, z2⟩
  · obtain ⟨u₀, hcell⟩ := X.cells x c hc
    refine wpAny_storeName_cell hk (lookup_relabel_cell hl) (c := c) (by show List.lookup x (oc ++ _) = _; rw [List.lookup_append, hc]; rfl) hcell fun h' hc' hs' => ?_
    refine go c h' _ (.inr ⟨x, hc⟩) hs' ⟨m, hn.sameBut hs' (Ne.symm (hCc x c hc))⟩ (fun y b hb => ?_) (let ⟨o, ho, _⟩ := hc'; ⟨o, ho⟩) (by rw [hpl]; exact hc') fun t ht' hne u a => ?_
    · by_cases q : b = c
      · subst q; exact ⟨_, hc'⟩
      · obtain ⟨u, o, h1, h2⟩ := X.cells y b hb
        exact ⟨u, o, hs'.extBut _ _ q h1, h2⟩
    · rcases pl_tgt (C := C) (pl := pl) O N ht' with ⟨_, q⟩ | ⟨c', _, q1, q⟩
      · rw [q] at a ⊢
        obtain ⟨m₂, hn₂, e⟩ := a
        exact ⟨m₂, hn₂.sameBut hs' (Ne.symm (hCc x c hc)), e⟩
      · rw [q] at a ⊢
        obtain ⟨o, z1, z2⟩ := a
        refine ⟨o, hs'.extBut _ _ (fun z => hne ?_) z1, z2⟩
        have := N.inj t.1 x c (z ▸ q1) hc
        rw [nodup_fst O.nd1 ht' ht this]
theorem Blk.stores (O : CompOk env.scope.names sm sc sm' ts) (N : OwnOk sc.names oc) : ∀ (xs : List (Str × Nat × Pos)) (ds : List PyData) (vs : List Value) (σb : Loc) (s : Shared), Blk pl ts σ P sc oc C D s₁ Mb σb acc s → xs.length = ds.length → (∀ x ∈ xs, (x.1, x.2.1) ∈ ts) → RVs (PB P Mb) s.heap ds vs →
    wpAny (model prog w) A (assignInOrder (xs.map fun x => assign (.Name x.1 x.2.2) (cenv sc oc C env)) vs) (fun _ s' => Blk pl ts σ P sc oc C D s₁ Mb (putMany (xs.map fun x => (x.1, x.2.1)) ds σb) acc s' ∧ Chg (Cm C oc) s s') NoE s
  | [], [], vs, σb, s, X, _, _, r => by rw [r.inv_nil]; exact wpAny_pure ⟨X, Chg.refl _⟩
  | x :: xs, d :: ds, vs, σb, s, X, hl, hx, r => by
    obtain ⟨v, vs', rfl, r1, r2⟩ := r.inv_cons
    refine wpAny_bind (wpAny_holding (wpAny_assign_Name (wpAny_mono (X.store O N (hx x (List.mem_cons_self ..)) r1) (fun _ s₂ g₂ => ?_) fun _ _ f => f)))
    obtain ⟨X₂, c₂⟩ := g₂
    have r2' : RVs (PB P Mb) s₂.heap ds vs' := r2.but fun b o p q => c₂.2 b o (fun z => p.2 (X.mine b z)) q
    exact wpAny_mono (Blk.stores O N xs ds vs' _ s₂ X₂ (by simpa using hl) (fun y hy => hx y (List.mem_cons_of_mem _ hy)) r2') (fun _ s₃ g₃ => ⟨g₃.1, c₂.trans g₃.2⟩) fun _ _ f => f
  | [], _ :: _, _, _, _, _, hl, _, _ => by simp at hl
  | _ :: _, [], _, _, _, _, hl, _, _ => by simp at hl
theorem Blk.assign {t : Tgt} {d : PyData} {v : Value} {σ' : Loc} (hh : A.handled = none) (O : CompOk env.scope.names sm sc sm' ts) (N : OwnOk sc.names oc) (X : Blk pl ts σ P sc oc C D s₁ Mb σb acc s) (ht : ∀ x ∈ t.names, x ∈ ts) (hv : RV (PB P Mb) s.heap d v) (hb : t.bind d σb = some σ') :
    wpAny (model prog w) A (PySem.assign t.ast (cenv sc oc C env) v) (fun _ s' => Blk pl ts σ P sc oc C D s₁ Mb σ' acc s' ∧ Chg (Cm C oc) s s') NoE s := by
  cases t with
  | one x i p =>
    cases hb
    exact wpAny_assign_Name (X.store O N (ht (x, i) (by simp [Tgt.names])) hv)
  | tup xs kk p =>
    cases d with
    | tuple es =>
      simp only [Tgt.bind, Tgt.vals] at hb
      split at hb
      · rename_i hl
        cases hb
        obtain ⟨a, vs, rfl, _, hta, hr⟩ := hv.inv_tuple
        have hlen := hr.length
        have e1 : (xs.map fun x => ((false, PySem.assign (.Name x.1 x.2.2) (cenv sc oc C env)) : Bool × (Value → Sem Unit))).findIdx? (·.1) = none := by
          rw [List.findIdx?_eq_none_iff]; intro y hy; obtain ⟨z, _, rfl⟩ := List.mem_map.mp hy; rfl
        refine assign_Tuple_tuple hh hta (by rw [assignEach_names]; simp [hlen, hl]) (by rw [assignEach_names]; exact e1) fun h₀ he₀ => ?_
        rw [assignEach_names, List.map_map]
        have kp : Kp s { s with heap := h₀ } := ⟨h₀, s.toks, rfl, fun b o e => he₀ b o (Nat.ne_of_lt (Heap.lt_size e)) e⟩
        exact wpAny_mono (Blk.stores O N xs es vs σb _ (X.kp kp) (by rw [hl]) (fun y hy => ht (y.1, y.2.1) (List.mem_map.mpr ⟨y, hy, rfl⟩)) (hr.keeps kp.ext)) (fun _ s₃ g₃ => ⟨g₃.1, (Chg.kp kp).trans g₃.2⟩) fun _ _ f => f
      · cases hb
    | _ => cases hb
theorem Blk.append {d : PyData} {v : Value} (O : CompOk env.scope.names sm sc sm' ts) (N : OwnOk sc.names oc) (X : Blk pl ts σ P sc oc C D s₁ Mb σb acc s) (hv : RV (PB P Mb) s.heap d v) (hl : acc.length < sizeLine) :
    wpAny (model prog w) A (call (.builtin "list.append") [.ref D, v]) (fun _ s' => Blk pl ts σ P sc oc C D s₁ Mb σb (acc ++ [d]) s' ∧ Chg (fun a => a = D) s s') NoE s := by
  obtain ⟨ys, hp, r⟩ := X.acc
  have hrl := r.length
  refine wpAny_list_append_plain hp (fun h' hp' hs' => ?_) (by simp only [List.size_toArray]; omega)
  have hk : ∀ b o, b ≠ D → s.heap.get? b = some o → h'.get? b = some o := fun b o h1 h2 => hs'.extBut b o h1 h2
  obtain ⟨hDC, hDc⟩ := X.dc
  have eP : ExtP (PB P Mb) s.heap h' := fun b o p q => hk b o (fun z => p.2 (z ▸ X.mD)) q
  have hc : Chg (fun a => a = D) s { s with heap := h' } := ⟨⟨h', s.toks, rfl⟩, fun b o n q => hk b o n q⟩
  obtain ⟨h0, t0, rfl⟩ := X.same
  refine ⟨{ X with
    same := ⟨h', t0, rfl⟩
    kept := fun b o q => hk b o (fun z => by rw [z, X.new D X.mD] at q; cases q) (X.kept b o q)
    ns := let ⟨m, hn⟩ := X.ns; ⟨m, hn.at' fun o e => hk _ o (Ne.symm hDC) e⟩
    cells := fun x c hc => let ⟨v, o, h1, h2⟩ := X.cells x c hc; ⟨v, o, hk _ _ (fun z => hDc x (z ▸ hc)) h1, h2⟩
    live := fun a m => by
      by_cases q : a = D
      · obtain ⟨n, ho⟩ := hp'; exact ⟨_, q ▸ ho⟩
      · obtain ⟨o, ho⟩ := X.live a m; exact ⟨o, hk a o q ho⟩
    acc := ⟨ys ++ [v], by simpa using hp', (r.but eP).append (RVs.cons (hv.but eP) RVs.nil)⟩
    tgt := fun t ht l hl => ?_ }, hc⟩
  obtain ⟨d', u, h1, h2, h3⟩ := X.tgt t ht l hl
  refine ⟨d', u, h1, ?_, h3.but eP⟩
  rcases pl_tgt (C := C) (pl := pl) O N ht with ⟨_, q⟩ | ⟨c, _, q1, q⟩
  · rw [q] at h2 ⊢
    obtain ⟨m, hn, e⟩ := h2
    exact ⟨m, hn.at' fun o e => hk _ o (Ne.symm hDC) e, e⟩
  · rw [q] at h2 ⊢
    obtain ⟨o, z1, z2⟩ := h2
    exact ⟨o, hk _ _ (fun z => hDc t.1 (z ▸ q1)) z1, z2⟩
end
end Mine
end
section
open PySem PySem.W PySem.Calls PyProof.Rows
set_option Elab.async false
set_option maxRecDepth 100000
namespace Mine
noncomputable def compF (Γ : Nat → List PyData → Option PyData) (hG : Hs) (elt : IE) (t : Tgt) (ifs : IEs) (σ : Loc) (v : PyData) : Option (List PyData) := match t.bind v σ with
  | none => none
  | some σ' => match evIfs Γ hG ifs σ' with
    | none => none
    | some false => some []
    | some true => (ev Γ hG elt σ').map fun x => [x]
theorem put_at_ne {σ : Loc} {i j : Nat} {l : LV} (h : j ≠ i) : (σ.put i l).at j = σ.at j := by
  unfold Loc.put Loc.at
  rw [List.getElem?_set_ne (Ne.symm h)]
theorem putMany_at : ∀ {ts : List (Str × Nat)} {ds : List PyData} {σ : Loc} {j : Nat}, (∀ t ∈ ts, t.2 ≠ j) → (putMany ts ds σ).at j = σ.at j
  | [], _, _, _, _ => by simp [putMany]
  | _ :: _, [], _, _, _ => by simp [putMany]
  | t :: ts, d :: ds, σ, j, h => by
    show (putMany ts ds (σ.put t.2 (.d d))).at j = _
    rw [putMany_at fun t' ht => h t' (List.mem_cons_of_mem _ ht), put_at_ne (Ne.symm (h t (List.mem_cons_self ..)))]
theorem bind_at {t : Tgt} {v : PyData} {σ σ' : Loc} {j : Nat} (h : t.bind v σ = some σ') (hj : ∀ x ∈ t.names, x.2 ≠ j) : σ'.at j = σ.at j := by
  unfold Tgt.bind at h
  obtain ⟨ds, _, rfl⟩ := Option.map_eq_some_iff.mp h
  exact putMany_at hj
theorem bind_keep {t : Tgt} {v : PyData} {σ σ' : Loc} (h : t.bind v σ = some σ') (h0 : ∀ x ∈ t.names, σ.at x.2 = none) : ∀ j l, σ.at j = some l → σ'.at j = some l := fun j l q => by
  rw [bind_at h fun x hx e => ?_, q]
  have := h0 x hx; rw [e, q] at this; cases this
section
variable {prog : Program} {w : World} {hB : Heap} {Γ : Nat → List PyData → Option PyData} {hG : Hs}
  {env : Env} {pl : Nat → Place} {sm sm' ts : List (Str × Nat)} {σ : Loc} {P : Addr → Prop} {A : Around} {k : Nat} {sc : Scope} {oc : List (Str × Addr)} {C D : Addr} {s₁ : Shared} {R : Result → Shared → Prop}
noncomputable def EltOk (prog : Program) (w : World) (hB : Heap) (Γ : Nat → List PyData → Option PyData) (hG : Hs) (names : List (Str × NameKind)) (sm' : List (Str × Nat)) (A : Around) (k : Nat) (elt : IE) : Prop :=
  ∀ (env' : Env) pl' σ' P' s' y, env'.scope.names = names → Here env' pl' sm' σ' hB P' A k s' → ev Γ hG elt σ' = some y → wpAny (model prog w) A (eval elt.ast env') (Gv P' s' y) NoE s'
noncomputable def IfsOk (prog : Program) (w : World) (hB : Heap) (Γ : Nat → List PyData → Option PyData) (hG : Hs) (names : List (Str × NameKind)) (sm' : List (Str × Nat)) (A : Around) (k : Nat) (ifs : IEs) : Prop :=
  ∀ (env' : Env) pl' σ' P' s' b, env'.scope.names = names → Here env' pl' sm' σ' hB P' A k s' → evIfs Γ hG ifs σ' = some b →
    wpAny (model prog w) A (forIn ifs.ast true fun c r => if r = true then do let ok ← isTrue c env' (eval c env'); pure (ForInStep.yield ok) else pure (ForInStep.yield r)) (GvT s' b) NoE s'
theorem comp_last {Mb Mb₀ : Addr → Prop} {σ0 : Loc} {acc0 xs ds : List PyData} {s : Shared} {gens : List Comprehension} {p : Pos} {dep : Nat} {iterE : Expr} {elt : IE} {t : Tgt} {ifs : IEs} {I : Addr} {fp wr : List Addr} {Pr : Nat → Value → Prop} {St : Nat → Heap → Prop}
    (hturn : ∀ it acc env, compTurn (.ListComp elt.ast gens sc p) dep it acc env = turnLast (.ListComp elt.ast gens sc p) dep t.ast iterE ifs.ast elt.ast it acc env)
    (O : CompOk env.scope.names sm sc sm' ts) (N : OwnOk sc.names oc) (H : Here env pl sm σ hB P A k s₁) (X : Blk pl ts σ P sc oc C D s₁ Mb σ0 acc0 s)
    (W : Walks prog w A I fp wr xs.length Pr St) (hst : St 0 s.heap) (hI : Mb I) (hIm : ¬ Cm C oc I) (hID : I ≠ D) (hwr : ∀ b ∈ wr, b = I) (hfp : ∀ b ∈ fp, b = I ∨ ¬ (Cm C oc b ∨ b = D)) (hlive : ∀ i h, St i h → ∃ o, h.get? I = some o ∧ NoOwned o)
    (hPr : ∀ i v, i < xs.length → Pr i v → ∃ d, xs[i]? = some d ∧ RV (PB P Mb) s.heap d v) (hlen : acc0.length + ds.length ≤ sizeLine) (htn : ∀ x ∈ t.names, x ∈ ts) (h0 : ∀ x ∈ t.names, σ0.at x.2 = none)
    (helt : EltOk prog w hB Γ hG (inner env.scope.names sc) sm' A k elt) (hifs : IfsOk prog w hB Γ hG (inner env.scope.names sc) sm' A k ifs)
    (e : gather (compF Γ hG elt t ifs σ0) xs = some ds)
    (h₀ : ∀ a, Mb₀ a → Mb a ∧ a ≠ I) (hm₀ : ∀ a, Cm C oc a → Mb₀ a) (hD₀ : Mb₀ D)
    (hR : ∀ s', Blk pl ts σ P sc oc C D s₁ Mb₀ σ0 (acc0 ++ ds) s' → Chg (fun a => Cm C oc a ∨ a = D ∨ a = I) s s' → R (.ok .next) s') :
    codeAny (model prog w) A (.compLoop (.ListComp elt.ast gens sc p) dep (.ref I) (.ref D) (cenv sc oc C env)) R s := by
  have hsub : ∀ a, (Cm C oc a ∨ a = D ∨ a = I) → Mb a := fun a h => h.elim (X.mine a) fun h => h.elim (fun q => q ▸ X.mD) fun q => q ▸ hI
  have hsc : (cenv sc oc C env).scope.names = inner env.scope.names sc := relabel_names H.kind
  refine loop_last (hturn _ _ _)
    (fun n s' => ∃ i dsd, n = xs.length + 1 - i ∧ i ≤ xs.length ∧ Blk pl ts σ P sc oc C D s₁ Mb σ0 (acc0 ++ dsd) s' ∧ St i s'.heap ∧ Chg (fun a => Cm C oc a ∨ a = D ∨ a = I) s s' ∧ gather (compF Γ hG elt t ifs σ0) (xs.take i) = some dsd) ?_ (xs.length + 1)
    ⟨0, [], rfl, Nat.zero_le _, by simpa using X, hst, Chg.refl _, by simp [gather]⟩
  rintro n s₂ ⟨i, dsd, rfl, hi, X₂, st₂, c₂, g₂⟩
  by_cases hlt : i < xs.length
  · refine W.item i _ _ _ hlt st₂ fun v h₃ tk₃ hv st₃ hk₃ => ?_
    have hk : ∀ b o, b ≠ I → s₂.heap.get? b = some o → h₃.get? b = some o := fun b o n q => hk₃ b o (fun z => n (hwr b z)) q
    obtain ⟨oI, hoI, hno⟩ := hlive _ _ st₃
    have X₃ := X₂.beside (tk := tk₃) O N hI hIm hID hk ⟨oI, hoI⟩
    have c₃ : Chg (fun a => Cm C oc a ∨ a = D ∨ a = I) s { s₂ with heap := h₃, toks := tk₃ } := c₂.trans ⟨⟨_, _, rfl⟩, fun b o n q => hk b o (fun z => n (.inr (.inr z))) q⟩
    obtain ⟨d, hd, rv⟩ := hPr i v hlt hv
    have rv₃ : RV (PB P Mb) h₃ d v := rv.but fun b o q z => c₃.2 b o (fun m => q.2 (hsub b m)) z
    obtain ⟨a, ha⟩ := gather_get e hd
    have htake : xs.take (i + 1) = xs.take i ++ [d] := by rw [List.take_add_one, hd]; rfl
    have hsn := gather_snoc g₂ ha
    rw [← htake] at hsn
    have hle := gather_len e hsn
    rw [List.length_append] at hle
    refine letOwned_ok t hoI hno ?_
    have ha' := ha
    unfold compF at ha
    split at ha
    · cases ha
    · rename_i σ₄ hb
      refine wpAny_mono (X₃.assign H.room.handled O N htn rv₃ hb) (fun _ s₄ g₄ => ?_) fun _ _ f => f
      obtain ⟨X₄, c₄⟩ := g₄
      have fr : ∀ {j : Nat} {s' s'' : Shared} {Y : Addr → Prop}, St j s'.heap → Chg Y s' s'' → (∀ a, Y a → Cm C oc a ∨ a = D) → St j s''.heap := fun st c hY => W.frame _ _ _ st fun b hb o q => c.2 b o (fun z => by
        rcases hfp b hb with rfl | hn
        · exact (hY b z).elim hIm hID
        · exact hn (hY b z)) q
      have st₄ : St (i + 1) s₄.heap := fr (s' := { s₂ with heap := h₃, toks := tk₃ }) st₃ c₄ fun a z => .inl z
      have H₄ := X₄.here O N H
      have c4 := c₃.trans (c₄.mono (Y := fun a => Cm C oc a ∨ a = D ∨ a = I) fun b z => .inl z)
      have back := bind_keep hb h0
      split at ha
      · cases ha
      · rename_i hf
        cases ha
        refine wpAny_mono (hifs _ _ _ _ _ false hsc H₄ hf) (fun ok s₅ g₅ => ?_) fun _ _ f => f
        obtain ⟨rfl, k₅⟩ := g₅
        simp only [Bool.false_eq_true, if_false]
        exact ⟨xs.length + 1 - (i + 1), by omega, i + 1, dsd, rfl, hlt, (X₄.kp k₅).drop back, fr (Y := fun _ => False) st₄ (Chg.kp k₅) (fun _ z => z.elim), c4.trans (Chg.kp k₅), by simpa using hsn⟩
      · rename_i hf
        refine wpAny_mono (hifs _ _ _ _ _ true hsc H₄ hf) (fun ok s₅ g₅ => ?_) fun _ _ f => f
        obtain ⟨rfl, k₅⟩ := g₅
        simp only [if_true]
        cases hy : ev Γ hG elt σ₄ with
        | none => rw [hy] at ha; cases ha
        | some y =>
          rw [hy] at ha; cases ha
          refine wpAny_mono (helt _ _ _ _ _ y hsc (H₄.kp k₅) hy) (fun yv s₆ g₆ => ?_) fun _ _ f => f
          obtain ⟨k₆, ry⟩ := g₆
          have X₆ := (X₄.kp k₅).kp k₆
          simp only [List.length_cons, List.length_nil] at hle
          refine wpAny_mono (X₆.append O N ry (by rw [List.length_append]; omega)) (fun _ s₇ g₇ => ?_) fun _ _ f => f
          obtain ⟨X₇, c₇⟩ := g₇
          refine ⟨xs.length + 1 - (i + 1), by omega, i + 1, dsd ++ [y], rfl, hlt, ?_, fr (Y := fun a => a = D) (fr (Y := fun _ => False) (fr (Y := fun _ => False) st₄ (Chg.kp k₅) (fun _ z => z.elim)) (Chg.kp k₆) (fun _ z => z.elim)) c₇ (fun _ z => .inr z), ((c4.trans (Chg.kp k₅)).trans (Chg.kp k₆)).trans (c₇.mono fun _ z => .inr (.inl z)), hsn⟩
          rw [← List.append_assoc]
          exact X₇.drop back
  · have hin : i = xs.length := by omega
    subst hin
    rw [List.take_length] at g₂
    rw [e] at g₂; cases g₂
    refine W.done _ _ _ st₂ fun h₃ tk₃ hk₃ => ?_
    have hk : ∀ b o, b ≠ I → s₂.heap.get? b = some o → h₃.get? b = some o := fun b o n q => hk₃ b o (fun z => n (hwr b z)) q
    exact hR _ (X₂.gone (tk := tk₃) O N hI hIm hID hk h₀ hm₀ hD₀) (c₂.trans ⟨⟨_, _, rfl⟩, fun b o n q => hk b o (fun z => n (.inr (.inr z))) q⟩)
noncomputable def IterOk (prog : Program) (w : World) (hB : Heap) (Γ : Nat → List PyData → Option PyData) (hG : Hs) (names : List (Str × NameKind)) (sm' : List (Str × Nat)) (A : Around) (k : Nat) (it : IT) : Prop :=
  ∀ (env' : Env) pl' σ' P' s' xs, env'.scope.names = names → Here env' pl' sm' σ' hB P' A k s' → evit Γ hG it σ' = some xs →
    wpAny (model prog w) A (eval it.ast env') (fun v s₁ => Kp s' s₁ ∧ wpAny (model prog w) A (pyIter v) (ItGv prog w A P' P' s₁ xs) NoE s₁) NoE s'
noncomputable def compG (Γ : Nat → List PyData → Option PyData) (hG : Hs) (elt : IE) (t : Tgt) (it2 : IT) (t2 : Tgt) (σ : Loc) (v : PyData) : Option (List PyData) := match t.bind v σ with
  | none => none
  | some σ' => match evit Γ hG it2 σ' with
    | none => none
    | some ys => gather (compF Γ hG elt t2 .nil σ') ys
theorem comp_first {Mb Mb₀ : Addr → Prop} {σ0 : Loc} {acc0 xs ds : List PyData} {s : Shared} {p : Pos} {iterE : Expr} {elt : IE} {t t2 : Tgt} {it2 : IT} {I : Addr} {fp wr : List Addr} {Pr : Nat → Value → Prop} {St : Nat → Heap → Prop}
    (O : CompOk env.scope.names sm sc sm' ts) (N : OwnOk sc.names oc) (H : Here env pl sm σ hB P A k s₁) (X : Blk pl ts σ P sc oc C D s₁ Mb σ0 acc0 s)
    (W : Walks prog w A I fp wr xs.length Pr St) (hst : St 0 s.heap) (hI : Mb I) (hIm : ¬ Cm C oc I) (hID : I ≠ D) (hwr : ∀ b ∈ wr, b = I) (hfp : ∀ b ∈ fp, b = I ∨ ¬ (Cm C oc b ∨ b = D)) (hfl : ∀ b ∈ fp, ∃ o, s.heap.get? b = some o) (hlive : ∀ i h, St i h → ∃ o, h.get? I = some o ∧ NoOwned o)
    (hPr : ∀ i v, i < xs.length → Pr i v → ∃ d, xs[i]? = some d ∧ RV (PB P Mb) s.heap d v) (hlen : acc0.length + ds.length ≤ sizeLine) (htn : ∀ x ∈ t.names, x ∈ ts) (htn2 : ∀ x ∈ t2.names, x ∈ ts) (h0 : ∀ x ∈ t.names, σ0.at x.2 = none) (h02 : ∀ x ∈ t2.names, σ0.at x.2 = none)
    (hdis : ∀ x ∈ t2.names, ∀ y ∈ t.names, y.2 ≠ x.2)
    (helt : EltOk prog w hB Γ hG (inner env.scope.names sc) sm' A k elt) (hit : IterOk prog w hB Γ hG (inner env.scope.names sc) sm' A k it2) (hifs : IfsOk prog w hB Γ hG (inner env.scope.names sc) sm' A k .nil)
    (hfold : ∀ x, foldedSetIterable it2.ast (cenv sc oc C env) x = pure x)
    (e : gather (compG Γ hG elt t it2 t2 σ0) xs = some ds)
    (h₀ : ∀ a, Mb₀ a → Mb a ∧ a ≠ I) (hm₀ : ∀ a, Cm C oc a → Mb₀ a) (hD₀ : Mb₀ D)
    (hR : ∀ s', Blk pl ts σ P sc oc C D s₁ Mb₀ σ0 (acc0 ++ ds) s' → R (.ok .next) s') :
    codeAny (model prog w) A (.compLoop (.ListComp elt.ast [⟨t.ast, iterE, [], 0⟩, ⟨t2.ast, it2.ast, [], 0⟩] sc p) 0 (.ref I) (.ref D) (cenv sc oc C env)) R s := by
  have hsc : (cenv sc oc C env).scope.names = inner env.scope.names sc := relabel_names H.kind
  refine loop_first (turn_first _ _ _ _ _ _ _ _ _ _ _)
    (fun n s' => ∃ i dsd, n = xs.length + 1 - i ∧ i ≤ xs.length ∧ Blk pl ts σ P sc oc C D s₁ Mb σ0 (acc0 ++ dsd) s' ∧ St i s'.heap ∧ (∀ b o, PB P Mb b → s.heap.get? b = some o → s'.heap.get? b = some o) ∧ (∀ b ∈ fp, ∃ o, s'.heap.get? b = some o) ∧ gather (compG Γ hG elt t it2 t2 σ0) (xs.take i) = some dsd) ?_ (xs.length + 1)
    ⟨0, [], rfl, Nat.zero_le _, by simpa using X, hst, fun _ _ _ q => q, hfl, by simp [gather]⟩ hfold
  rintro n s₂ ⟨i, dsd, rfl, hi, X₂, st₂, c₂, fl₂, g₂⟩
  by_cases hlt : i < xs.length
  · refine W.item i _ _ _ hlt st₂ fun v h₃ tk₃ hv st₃ hk₃ => ?_
    have hk : ∀ b o, b ≠ I → s₂.heap.get? b = some o → h₃.get? b = some o := fun b o n q => hk₃ b o (fun z => n (hwr b z)) q
    obtain ⟨oI, hoI, hno⟩ := hlive _ _ st₃
    have X₃ := X₂.beside (tk := tk₃) O N hI hIm hID hk ⟨oI, hoI⟩
    have c₃ : ∀ b o, PB P Mb b → s.heap.get? b = some o → h₃.get? b = some o := fun b o q z => hk b o (fun m => q.2 (m ▸ hI)) (c₂ b o q z)
    have fl₃ : ∀ b ∈ fp, ∃ o, h₃.get? b = some o := fun b hb => by
      by_cases q : b = I
      · exact q ▸ ⟨oI, hoI⟩
      · obtain ⟨o, ho⟩ := fl₂ b hb; exact ⟨o, hk b o q ho⟩
    obtain ⟨d, hd, rv⟩ := hPr i v hlt hv
    have rv₃ : RV (PB P Mb) h₃ d v := rv.but c₃
    obtain ⟨a, ha⟩ := gather_get e hd
    have htake : xs.take (i + 1) = xs.take i ++ [d] := by rw [List.take_add_one, hd]; rfl
    have hsn := gather_snoc g₂ ha
    rw [← htake] at hsn
    have hle := gather_len e hsn
    rw [List.length_append] at hle
    refine letOwned_ok t hoI hno ?_
    unfold compG at ha
    split at ha
    · cases ha
    · rename_i σ₄ hb
      refine wpAny_mono (X₃.assign H.room.handled O N htn rv₃ hb) (fun _ s₄ g₄ => ?_) fun _ _ f => f
      obtain ⟨X₄, c₄⟩ := g₄
      have fr : ∀ {j : Nat} {s' s'' : Shared} {Y : Addr → Prop}, St j s'.heap → Chg Y s' s'' → (∀ a, Y a → a ∈ fp → Cm C oc a ∨ a = D) → St j s''.heap := fun st c hY => W.frame _ _ _ st fun b hb o q => c.2 b o (fun z => by
        rcases hfp b hb with rfl | hn
        · exact (hY b z hb).elim hIm hID
        · exact hn (hY b z hb)) q
      have fll : ∀ {s' s'' : Shared} {Y : Addr → Prop}, (∀ b ∈ fp, ∃ o, s'.heap.get? b = some o) → Chg Y s' s'' → (∀ a, Y a → a ∈ fp → Cm C oc a ∨ a = D) → ∀ b ∈ fp, ∃ o, s''.heap.get? b = some o := fun fl c hY b hb => by
        obtain ⟨o, ho⟩ := fl b hb
        refine ⟨o, c.2 b o (fun z => ?_) ho⟩
        rcases hfp b hb with rfl | hn
        · exact (hY b z hb).elim hIm hID
        · exact hn (hY b z hb)
      have st₄ : St (i + 1) s₄.heap := fr (s' := { s₂ with heap := h₃, toks := tk₃ }) st₃ c₄ fun a z _ => .inl z
      have fl₄ : ∀ b ∈ fp, ∃ o, s₄.heap.get? b = some o := fll (s' := { s₂ with heap := h₃, toks := tk₃ }) fl₃ c₄ fun a z _ => .inl z
      have c4 : ∀ b o, PB P Mb b → s.heap.get? b = some o → s₄.heap.get? b = some o := fun b o q z => c₄.2 b o (fun m => q.2 (X.mine b m)) (c₃ b o q z)
      have back := bind_keep hb h0
      split at ha
      · cases ha
      · rename_i ys hys
        refine wpAny_mono (hit _ _ _ _ _ ys hsc (X₄.here O N H) hys) (fun yv s₅ g₅ => ?_) fun _ _ f => f
        obtain ⟨k₅, g₅⟩ := g₅
        have X₅ := X₄.kp k₅
        refine wpAny_mono g₅ (fun iv s₆ g₆ => ?_) fun _ _ f => f
        obtain ⟨k₆, I2, fp2, wr2, Pr2, St2, rfl, W2, hst2, hI2, hwr2, hfp2, hfe2, hlv2, hPr2⟩ := g₆
        obtain ⟨o2, ho2, hno2⟩ := hlv2 _ _ hst2
        have X₆ := X₅.more k₆ hI2 ⟨o2, ho2⟩
        have st₆ : St (i + 1) s₆.heap := fr (Y := fun _ => False) (fr (Y := fun _ => False) st₄ (Chg.kp k₅) fun _ z => z.elim) (Chg.kp k₆) fun _ z => z.elim
        have fl₅ : ∀ b ∈ fp, ∃ o, s₅.heap.get? b = some o := fll (Y := fun _ => False) fl₄ (Chg.kp k₅) fun _ z => z.elim
        have fl₆ : ∀ b ∈ fp, ∃ o, s₆.heap.get? b = some o := fll (Y := fun _ => False) fl₅ (Chg.kp k₆) fun _ z => z.elim
        have liveMb : ∀ a, Mb a → a ≠ I2 := fun a m q => by obtain ⟨o, ho⟩ := X₅.live a m; rw [q, hI2] at ho; cases ho
        have hI2m : ¬ Cm C oc I2 := fun m => liveMb _ (X.mine _ m) rfl
        have hI2D : I2 ≠ D := fun q => liveMb D X.mD q.symm
        have loop : codeAny (model prog w) A (.compLoop (.ListComp elt.ast [⟨t.ast, iterE, [], 0⟩, ⟨t2.ast, it2.ast, [], 0⟩] sc p) 1 (.ref I2) (.ref D) (cenv sc oc C env)) (fun r s₇ => r = .ok .next ∧ ∃ m, m < xs.length + 1 - i ∧ ∃ i' dsd', m = xs.length + 1 - i' ∧ i' ≤ xs.length ∧ Blk pl ts σ P sc oc C D s₁ Mb σ0 (acc0 ++ dsd') s₇ ∧ St i' s₇.heap ∧ (∀ b o, PB P Mb b → s.heap.get? b = some o → s₇.heap.get? b = some o) ∧ (∀ b ∈ fp, ∃ o, s₇.heap.get? b = some o) ∧ gather (compG Γ hG elt t it2 t2 σ0) (xs.take i') = some dsd') s₆ := by
          refine comp_last (iterE := it2.ast) (ifs := .nil) (Mb₀ := Mb) (fun it acc env => turn_last1 _ _ _ _ _ _ _ _ _ _) O N H X₆ W2 hst2 (.inr rfl) hI2m hI2D hwr2 (fun b hb => (hfp2 b hb).imp id fun q m => q.1.2 (m.elim (X.mine b) fun z => z ▸ X.mD)) hlv2 ?_ (by rw [List.length_append]; omega) htn2 ?_ helt hifs ha
            (fun a m => ⟨.inl m, liveMb a m⟩) X.mine X.mD fun s₇ X₇ c₇ => ?_
          · intro j v hj pv
            obtain ⟨d', hd', r'⟩ := hPr2 j v hj pv
            exact ⟨d', hd', r'.map fun a o p q => ⟨⟨p.1, fun m => m.elim p.2 fun z => by rw [z, hI2] at q; cases q⟩, k₆.ext a o q⟩⟩
          · intro x hx
            rw [bind_at hb (hdis x hx)]
            exact h02 x hx
          · refine ⟨rfl, xs.length + 1 - (i + 1), by omega, i + 1, dsd ++ a, rfl, hlt, ?_, ?_, ?_, ?_, hsn⟩
            · rw [← List.append_assoc]; exact X₇.drop back
            · refine fr st₆ c₇ fun b z hb => z.elim .inl fun z => z.elim .inr fun z => ?_
              obtain ⟨o, ho⟩ := fl₅ b hb
              rw [z, hI2] at ho; cases ho
            · intro b o q z
              have h6 := k₆.ext b o (k₅.ext b o (c4 b o q z))
              refine c₇.2 b o (fun m => ?_) h6
              rcases m with m | rfl | rfl
              · exact q.2 (X.mine b m)
              · exact q.2 X.mD
              · have := k₅.ext _ o (c4 _ o q z); rw [hI2] at this; cases this
            · refine fll fl₆ c₇ fun b z hb => z.elim .inl fun z => z.elim .inr fun z => ?_
              obtain ⟨o, ho⟩ := fl₅ b hb
              rw [z, hI2] at ho; cases ho
        exact start1 loop (W2.self 0 _ _ _ hst2 loop)
  · have hin : i = xs.length := by omega
    subst hin
    rw [List.take_length] at g₂
    rw [e] at g₂; cases g₂
    refine W.done _ _ _ st₂ fun h₃ tk₃ hk₃ => ?_
    have hk : ∀ b o, b ≠ I → s₂.heap.get? b = some o → h₃.get? b = some o := fun b o n q => hk₃ b o (fun z => n (hwr b z)) q
    exact hR _ (X₂.gone (tk := tk₃) O N hI hIm hID hk h₀ hm₀ hD₀)
theorem block_enter {e : Expr} {I : Addr} {s₂ : Shared} {RR : Value → Addr → Result → Shared → Prop} (O : CompOk env.scope.names sm sc sm' ts) (hkp : Kp s₁ s₂) (hI : s₁.heap.get? I = none) (hIe : ∃ o, s₂.heap.get? I = some o)
    (h : ∀ D C oc s₃, OwnOk sc.names oc → Blk pl ts σ P sc oc C D s₁ (fun a => Cm C oc a ∨ a = D ∨ a = I) (clr ts σ) [] s₃ → Ext s₂.heap s₃.heap → (∀ b, (Cm C oc b ∨ b = D) → s₂.heap.get? b = none) →
      codeAny (model prog w) A (.compStart e 0 (.ref I) (.ref D) (cenv sc oc C env)) (RR (.ref D) C) s₃) :
    wpAny (model prog w) A (newList []) (fun acc s₃ => wpAny (model prog w) A (newFunctionEnv sc env.globals (clF env.cells sc.names []) [] env.qual none .none (some env)) (fun cenv s₄ =>
      codeAny (model prog w) A (.compStart e 0 (.ref I) acc { cenv with scope := relabel sc env }) (RR acc cenv.locals) s₄) NoE s₃) NoE s₂ := by
  obtain ⟨H2, tk2, rfl, he2⟩ := hkp
  refine wpAny_newObj_type ?_
  simp only [newFunctionEnv, Option.isSome_some, if_true]
  refine wpAny_bind (wpAny_alloc ?_)
  refine wpAny_bind (wpAny_layCells _ (fun name kind cells => by cases hkc : kind == NameKind.cell <;> simp [hkc]) _ _ _ _ ?_)
  refine wpAny_bind (wpAny_pure (wpAny_pure ?_))
  generalize hH3 : H2.push { cls := .type "list", dict := none, data := .seq ([] : List Value).toArray } = H3
  have hD3 : H3.get? H2.objs.size = some { cls := .type "list", dict := none, data := .seq ([] : List Value).toArray } := hH3 ▸ Heap.get?_push_size _ rfl
  have ext3 : Ext H2 H3 := fun b o q => hH3 ▸ Heap.get?_push_of_some _ q
  have hs3 : H3.objs.size = H2.objs.size + 1 := by rw [← hH3, Heap.size_push]
  have cok := cellsFrom_ok sc.names (H3.push { cls := .type "dict", data := .dict #[] }) (H3.objs.size + 1) [] ⟨fun _ _ hm => (nomatch hm), List.Pairwise.nil⟩ (by rw [Heap.size_push]; exact Nat.le_refl _)
  rw [Heap.size_push] at cok
  show codeAny _ _ (.compStart e 0 (.ref I) (.ref H2.objs.size) (compEnvC sc (cellsFrom (H3.push { cls := .type "dict", data := .dict #[] }).objs.size sc.names (clF env.cells sc.names [])) H3.objs.size env)) (RR (.ref H2.objs.size) H3.objs.size) { s₁ with heap := pushCells (H3.push { cls := .type "dict", data := .dict #[] }) sc.names, toks := tk2 }
  rw [Heap.size_push, cellsFrom_app]
  have extL : Ext H2 (pushCells (H3.push { cls := .type "dict", data := .dict #[] }) sc.names) := fun b o q => pushCells_keeps _ _ b o (Heap.get?_push_of_some _ (ext3 b o q))
  have hold : ∀ b, H2.objs.size ≤ b → H2.get? b = none := fun b hb => by
    cases q : H2.get? b with
    | none => rfl
    | some o => exact absurd (Heap.lt_size q) (Nat.not_lt.mpr hb)
  have hmem : ∀ x c, (cellsFrom (H3.objs.size + 1) sc.names []).lookup x = some c → H2.objs.size ≤ c := fun x c q => by
    have := (cok.empty x c (PySem.mem_of_lookup q)).2
    omega
  have hnew : ∀ b, (Cm H3.objs.size (cellsFrom (H3.objs.size + 1) sc.names []) b ∨ b = H2.objs.size) → H2.get? b = none := by
    rintro b ((rfl | ⟨x, hx⟩) | rfl)
    · exact hold _ (by omega)
    · exact hold _ (hmem x b hx)
    · exact hold _ (Nat.le_refl _)
  have h1n : ∀ b, H2.get? b = none → s₁.heap.get? b = none := fun b hb => by
    cases q : s₁.heap.get? b with
    | none => rfl
    | some o => have := he2 b o q; rw [hb] at this; cases this
  refine h _ _ _ _ ⟨fun x c q => cellsFrom_mem _ _ (PySem.mem_of_lookup q), fun x q => cellsFrom_some _ _ q, fun x y c hx hy => name_of_addr cok.apart (PySem.mem_of_lookup hx) (PySem.mem_of_lookup hy)⟩ ?_ extL hnew
  have hDat : (pushCells (H3.push { cls := .type "dict", data := .dict #[] }) sc.names).get? H2.objs.size = some { cls := .type "list", dict := none, data := .seq ([] : List Value).toArray } := pushCells_keeps _ _ _ _ (Heap.get?_push_of_some _ hD3)
  have hCns : (pushCells (H3.push { cls := .type "dict", data := .dict #[] }) sc.names).Ns H3.objs.size fun _ => none := (Heap.Ns.new H3 (.type "dict")).keeps (pushCells_keeps _ _)
  have hcell : ∀ x c, (cellsFrom (H3.objs.size + 1) sc.names []).lookup x = some c → (pushCells (H3.push { cls := .type "dict", data := .dict #[] }) sc.names).IsCell c none := fun x c q => (cok.empty x c (PySem.mem_of_lookup q)).1
  refine { same := ⟨_, _, rfl⟩, kept := Ext.trans he2 extL, ns := ⟨_, hCns⟩, cells := fun x c q => ⟨none, hcell x c q⟩, live := ?_, new := ?_, mine := fun a m => .inl m, mD := .inr (.inl rfl), acc := ⟨[], ⟨0, hDat⟩, RVs.nil⟩, tgt := fun t ht l hl => ?_, rest := fun j l hj hl => (at_clr hl).2 }
  · rintro a ((rfl | ⟨x, hx⟩) | rfl | rfl)
    · obtain ⟨o, _, _, ho, _⟩ := hCns; exact ⟨o, ho⟩
    · obtain ⟨o, ho, _⟩ := hcell x a hx; exact ⟨o, ho⟩
    · exact ⟨_, hDat⟩
    · obtain ⟨o, ho⟩ := hIe; exact ⟨o, extL _ _ ho⟩
  · rintro a (m | rfl | rfl)
    · exact h1n _ (hnew _ (.inl m))
    · exact h1n _ (hnew _ (.inr rfl))
    · exact hI
  · exact absurd rfl ((at_clr hl).1 t ht)
noncomputable def BlkEnd (P : Addr → Prop) (s₁ : Shared) (ds : List PyData) (D C : Addr) (s' : Shared) : Prop :=
  s₁.heap.get? D = none ∧ s₁.heap.get? C = none ∧ D ≠ C ∧ (∃ m, s'.heap.Ns C m) ∧ (∃ ys, s'.heap.PlainList D (List.toArray ys) ∧ RVs (fun a => P a ∧ a ≠ C ∧ a ≠ D) s'.heap ds ys) ∧ Kp s₁ s'
theorem Blk.fin {Mb : Addr → Prop} {σb : Loc} {ds : List PyData} {s : Shared} (X : Blk pl ts σ P sc oc C D s₁ Mb σb ds s) : BlkEnd P s₁ ds D C s := by
  obtain ⟨h, t, rfl⟩ := X.same
  obtain ⟨ys, hp, r⟩ := X.acc
  exact ⟨X.new D X.mD, X.new C (X.mine C (.inl rfl)), X.dc.1, X.ns, ⟨ys, hp, r.mono fun a q => ⟨q.1, fun z => q.2 (X.mine a (.inl z)), fun z => q.2 (z ▸ X.mD)⟩⟩, h, t, rfl, X.kept⟩
theorem gather_le {f : PyData → Option (List PyData)} (hf : ∀ v a, f v = some a → a.length ≤ 1) : ∀ {l x : List PyData}, gather f l = some x → x.length ≤ l.length
  | [], x, h => by cases h; exact Nat.le_refl _
  | v :: r, x, h => by
    unfold gather at h
    split at h
    · cases h
    · rename_i p hp
      split at h
      · cases h
      · rename_i q hq
        cases h
        have := gather_le hf hq
        have := hf v p hp
        simp; omega
theorem compF_le {elt : IE} {t : Tgt} {ifs : IEs} {σ : Loc} : ∀ v a, compF Γ hG elt t ifs σ v = some a → a.length ≤ 1 := by
  intro v a h
  unfold compF at h
  split at h
  · cases h
  · split at h
    · cases h
    · cases h; exact Nat.zero_le _
    · rename_i σ' _ _ _
      cases q : ev Γ hG elt σ' with
      | none => rw [q] at h; cases h
      | some y => rw [q] at h; cases h; exact Nat.le_refl _
theorem comp1_block {elt : IE} {t : Tgt} {iterE : Expr} {ifs : IEs} {p : Pos} {xs ds : List PyData} {iv : Value} {s₂ : Shared} {RR : Value → Addr → Result → Shared → Prop}
    (O : CompOk env.scope.names sm sc sm' t.names) (H : Here env pl sm σ hB P A k s₁) (g : ItGv prog w A (fun _ => True) P s₁ xs iv s₂) (hlen : xs.length ≤ bigN)
    (helt : EltOk prog w hB Γ hG (inner env.scope.names sc) sm' A k elt) (hifs : IfsOk prog w hB Γ hG (inner env.scope.names sc) sm' A k ifs)
    (e : gather (compF Γ hG elt t ifs (clr t.names σ)) xs = some ds) (hRR : ∀ D C s', BlkEnd P s₁ ds D C s' → RR (.ref D) C (.ok .next) s') :
    wpAny (model prog w) A (newList []) (fun acc s₃ => wpAny (model prog w) A (newFunctionEnv sc env.globals (clF env.cells sc.names []) [] env.qual none .none (some env)) (fun cenv s₄ =>
      codeAny (model prog w) A (.compStart (.ListComp elt.ast [⟨t.ast, iterE, ifs.ast, 0⟩] sc p) 0 iv acc { cenv with scope := relabel sc env }) (RR acc cenv.locals) s₄) NoE s₃) NoE s₂ := by
  obtain ⟨k₂, I, fp, wr, Pr, St, rfl, W, hst, hI, hwr, hfp, hfe, hlv, hPr⟩ := g
  obtain ⟨oI, hoI, _⟩ := hlv _ _ hst
  refine block_enter (pl := pl) (P := P) (σ := σ) O k₂ hI ⟨oI, hoI⟩ fun D C oc s₃ N X e₃ hn => ?_
  have nI : ∀ b, (Cm C oc b ∨ b = D) → b ≠ I := fun b m q => by have := hn b m; rw [q, hoI] at this; cases this
  have hst₃ : St 0 s₃.heap := W.frame _ _ _ hst fun b _ o q => e₃ b o q
  have loop : codeAny (model prog w) A (.compLoop (.ListComp elt.ast [⟨t.ast, iterE, ifs.ast, 0⟩] sc p) 0 (.ref I) (.ref D) (cenv sc oc C env)) (RR (.ref D) C) s₃ := by
    refine comp_last (Mb₀ := fun a => Cm C oc a ∨ a = D) (fun it acc env => turn_last0 _ _ _ _ _ _ _ _ _) O N H X W hst₃ (.inr (.inr rfl)) (fun m => nI I (.inl m) rfl) (fun q => nI I (.inr q) rfl) hwr (fun b hb => ?_) hlv ?_ ?_ (fun x hx => hx) (fun x hx => ?_) helt hifs e
      (fun a m => ⟨m.elim .inl fun z => .inr (.inl z), nI a m⟩) (fun a m => .inl m) (.inr rfl) fun s' X' _ => hRR _ _ _ (by simpa using X'.fin)
    · refine (hfp b hb).imp id fun q m => ?_
      have h1 := k₂.ext _ _ q.2.choose_spec
      rw [hn b m] at h1; cases h1
    · intro i v hi pv
      obtain ⟨d, hd, r⟩ := hPr i v hi pv
      exact ⟨d, hd, r.map fun a o q z => ⟨X.old a o q z, X.kept a o z⟩⟩
    · have := gather_le (compF_le) e
      rw [sizeLine_eq]; unfold bigN at hlen; simp only [List.length_nil]; omega
    · cases q : (clr t.names σ).at x.2 with
      | none => rfl
      | some l => exact absurd rfl ((at_clr q).1 x hx)
  exact codeAny_compStart_list loop (wp_noE (W.self 0 _ _ _ hst₃ loop))
theorem comp2_block {elt : IE} {t t2 : Tgt} {iterE : Expr} {it2 : IT} {p : Pos} {xs ds : List PyData} {iv : Value} {s₂ : Shared} {RR : Value → Addr → Result → Shared → Prop}
    (O : CompOk env.scope.names sm sc sm' (t.names ++ t2.names)) (H : Here env pl sm σ hB P A k s₁) (g : ItGv prog w A (fun _ => True) P s₁ xs iv s₂) (hlen : ds.length ≤ bigN)
    (helt : EltOk prog w hB Γ hG (inner env.scope.names sc) sm' A k elt) (hit : IterOk prog w hB Γ hG (inner env.scope.names sc) sm' A k it2) (hifs : IfsOk prog w hB Γ hG (inner env.scope.names sc) sm' A k .nil)
    (hfold : ∀ env x, foldedSetIterable it2.ast env x = pure x)
    (e : gather (compG Γ hG elt t it2 t2 (clr (t.names ++ t2.names) σ)) xs = some ds) (hRR : ∀ D C s', BlkEnd P s₁ ds D C s' → RR (.ref D) C (.ok .next) s') :
    wpAny (model prog w) A (newList []) (fun acc s₃ => wpAny (model prog w) A (newFunctionEnv sc env.globals (clF env.cells sc.names []) [] env.qual none .none (some env)) (fun cenv s₄ =>
      codeAny (model prog w) A (.compStart (.ListComp elt.ast [⟨t.ast, iterE, [], 0⟩, ⟨t2.ast, it2.ast, [], 0⟩] sc p) 0 iv acc { cenv with scope := relabel sc env }) (RR acc cenv.locals) s₄) NoE s₃) NoE s₂ := by
  obtain ⟨k₂, I, fp, wr, Pr, St, rfl, W, hst, hI, hwr, hfp, hfe, hlv, hPr⟩ := g
  obtain ⟨oI, hoI, _⟩ := hlv _ _ hst
  refine block_enter (pl := pl) (P := P) (σ := σ) O k₂ hI ⟨oI, hoI⟩ fun D C oc s₃ N X e₃ hn => ?_
  have nI : ∀ b, (Cm C oc b ∨ b = D) → b ≠ I := fun b m q => by have := hn b m; rw [q, hoI] at this; cases this
  have hst₃ : St 0 s₃.heap := W.frame _ _ _ hst fun b _ o q => e₃ b o q
  have h0 : ∀ x ∈ t.names ++ t2.names, (clr (t.names ++ t2.names) σ).at x.2 = none := fun x hx => by
    cases q : (clr (t.names ++ t2.names) σ).at x.2 with
    | none => rfl
    | some l => exact absurd rfl ((at_clr q).1 x hx)
  have loop : codeAny (model prog w) A (.compLoop (.ListComp elt.ast [⟨t.ast, iterE, [], 0⟩, ⟨t2.ast, it2.ast, [], 0⟩] sc p) 0 (.ref I) (.ref D) (cenv sc oc C env)) (RR (.ref D) C) s₃ := by
    refine comp_first (Mb₀ := fun a => Cm C oc a ∨ a = D) O N H X W hst₃ (.inr (.inr rfl)) (fun m => nI I (.inl m) rfl) (fun q => nI I (.inr q) rfl) hwr (fun b hb => ?_) (fun b hb => ?_) hlv ?_ ?_ (fun x hx => List.mem_append_left _ hx) (fun x hx => List.mem_append_right _ hx) (fun x hx => h0 x (List.mem_append_left _ hx)) (fun x hx => h0 x (List.mem_append_right _ hx))
      (fun x hx y hy q => ?_) helt hit hifs (hfold _) e
      (fun a m => ⟨m.elim .inl fun z => .inr (.inl z), nI a m⟩) (fun a m => .inl m) (.inr rfl) fun s' X' => hRR _ _ _ (by simpa using X'.fin)
    · refine (hfp b hb).imp id fun q m => ?_
      have h1 := k₂.ext _ _ q.2.choose_spec
      rw [hn b m] at h1; cases h1
    · obtain ⟨o, ho⟩ := hfe b hb; exact ⟨o, e₃ _ _ ho⟩
    · intro i v hi pv
      obtain ⟨d, hd, r⟩ := hPr i v hi pv
      exact ⟨d, hd, r.map fun a o q z => ⟨X.old a o q z, X.kept a o z⟩⟩
    · rw [sizeLine_eq]; unfold bigN at hlen; simp only [List.length_nil]; omega
    · have := O.nd2
      rw [List.map_append, List.nodup_append] at this
      exact this.2.2 _ (List.mem_map_of_mem hy) _ (List.mem_map_of_mem hx) q
  exact codeAny_compStart_list loop (wp_noE (W.self 0 _ _ _ hst₃ loop))
end
end Mine
end
section
open PySem PySem.W PySem.Calls PyProof.Rows
set_option Elab.async false
set_option maxRecDepth 100000
namespace Mine
theorem boot_bi (b : BI) (h : b ≠ .str) : bootBuiltins b.name = some (.builtin b.id) := by
  cases b <;> first | exact absurd rfl h | decide +kernel
theorem boot_range : bootBuiltins ("range" : Str) = some (.type "range") := by decide +kernel
theorem boot_list : bootBuiltins ("list" : Str) = some (.type "list") := by decide +kernel
theorem name_bi (b : BI) : (b.name == ("__debug__" : Str)) = false ∧ b.name ≠ ("__name__" : Str) := by cases b <;> decide +kernel
section
variable {prog : Program} {w : World} {K : Frag} {hB : Heap} {T : Tab} {Γ : Nat → List PyData → Option PyData} {hG : Hs} {k : Nat}
theorem fold_ast {env : Env} (it : IT) (x : Value) : foldedSetIterable it.ast env x = pure x := by
  cases it with
  | e e => cases e <;> rfl
  | range => rfl
  | v e => cases e <;> rfl
theorem marks_ast (op : CmpOp) (e : IE) : behindInMarks op e.ast = false := by cases e <;> rfl
theorem subs_ast (e : IE) (o i : Value) : subscripted e.ast false o i = operate [o, i] (getItem o i) := by cases e <;> rfl
theorem callB_str_none (xs : List PyData) : callB .str xs = none := by unfold callB; split <;> simp_all
theorem rangeL_len {a b c : Int} {xs : List PyData} (e : rangeL a b c = some xs) : xs.length ≤ bigN := by
  unfold rangeL at e
  split at e
  · rename_i h
    simp only [Bool.and_eq_true, decide_eq_true_eq] at h
    cases e
    have := h.1.1.2
    simp; omega
  · cases e
theorem evit_len {it : IT} {σ : Loc} {xs : List PyData} (e : evit Γ hG it σ = some xs) : xs.length ≤ bigN := by
  cases it with
  | e e' =>
    simp only [evit_e0, evit_e1, evit_e2] at e
    split at e
    · cases e
    · unfold itemsOf at e
      split at e
      · split at e
        · cases e; assumption
        · cases e
      · split at e
        · cases e; assumption
        · cases e
      · split at e
        · cases e; simpa [Str.length] using ‹_›
        · cases e
      · cases e
  | v e' =>
    simp only [evit_e0, evit_e1, evit_e2] at e
    split at e
    · cases e
    · unfold itemsOf at e
      split at e
      · split at e
        · cases e; assumption
        · cases e
      · split at e
        · cases e; assumption
        · cases e
      · split at e
        · cases e; simpa [Str.length] using ‹_›
        · cases e
      · cases e
  | range px es p =>
    simp only [evit_e0, evit_e1, evit_e2] at e
    split at e
    · cases e
    · unfold rangeItems at e
      split at e
      · exact rangeL_len e
      · exact rangeL_len e
      · exact rangeL_len e
      · cases e
theorem IsPart_of {P : Addr → Prop} {h : Heap} {d : PyData} {v : Value} {l : Option Int} (r : RV P h d v) (e : part (some d) = some l) : IsPart v l := by
  unfold part at e
  split at e
  · cases ‹some d = none›
  · rename_i q; cases q; cases e; rw [r.inv_none]; exact .none
  · rename_i q; cases q; cases e; obtain ⟨t, rfl⟩ := r.inv_int; exact .int _ _
  · cases e
theorem slot_me (m : ME) : Slot "str" m.name m.id := by
  cases m
  · exact F.slot_str_lower
  · exact F.slot_str_startswith
  · exact F.slot_str_endswith
  · exact F.slot_str_find
  · exact F.slot_str_split
  · exact F.slot_str_join
theorem type_me (m : ME) : typeOf (.builtin m.id) = pure (.type "method_descriptor") := by
  cases m
  · exact F.type_str_lower
  · exact F.type_str_startswith
  · exact F.type_str_endswith
  · exact F.type_str_find
  · exact F.type_str_split
  · exact F.type_str_join
theorem meth_str {m : ME} {x : PyData} {xs : List PyData} {d : PyData} (e : meth m x xs = some d) : ∃ z, x = .str z := by
  cases x with
  | str z => exact ⟨z, rfl⟩
  | _ => cases m <;> cases e
theorem starEach_len {env : Env} : ∀ es : IEs, (starEach es.ast env).length = es.len
  | .nil => rfl
  | .cons e es => by
    show (starEach (e.ast :: es.ast) env).length = es.len + 1
    rw [star_ast, List.length_cons, starEach_len es]
theorem call_meth {env : Env} {A : Around} {s : Shared} {o : IE} {m : ME} {ap p : Pos} {es : IEs} {Q : Value → Shared → Prop} (hr : o.recvOk = true) (hl : es.len < 20) (hline : ap.endLine = p.line)
    (ho : wpAny (model prog w) A (eval o.ast env) (fun v s₁ => ∃ z t, v = .str z t ∧ wpAny (model prog w) A (callWith p (.builtin m.id) [v] (backTo p (starEach es.ast env)) []) Q NoE s₁) NoE s) :
    wpAny (model prog w) A (eval (IE.meth m o ap es p).ast env) Q NoE s := by
  refine wpAny_Call_method_lateS (base_ast o hr) ?_ (by simp [hline]) (wpAny_mono ho (fun v s₁ g => ?_) fun _ _ f => f)
  · rw [stars_plain', len_ast]
    simp only [Bool.true_and, List.length_nil, Nat.add_zero, List.isEmpty_nil, if_true, Bool.and_eq_true, decide_eq_true_eq]
    exact ⟨rfl, by omega⟩
  · obtain ⟨z, t, rfl, g⟩ := g
    exact ⟨"str", m.id, F.plainAttrs_str, slot_me m, type_me m, typeIs_str _ _ _, fun a q => (nomatch q), g⟩
theorem range_call {env : Env} {pl : Nat → Place} {sm : List (Str × Nat)} {σ : Loc} {P : Addr → Prop} {A : Around} {s : Shared} {es : IEs} {px p : Pos} {ds xs : List PyData} (B : Base prog w K hB T Γ hG k) (H : Here env pl sm σ hB P A k s)
    (hn : env.scope.names.lookup ("range" : Str) = some .globalImplicit) (hl : 0 < es.len) (h : wpAny (model prog w) A (spliced (backTo p (starEach es.ast env))) (GvS P s ds) NoE s) (e : rangeItems ds = some xs) :
    wpAny (model prog w) A (eval (IT.range px es p).ast env) (fun v s₁ => Kp s s₁ ∧ ∃ r a b c t u t', v = .ref r ∧ IsRange s₁.heap r a b c t u t' ∧ rangeL a b c = some xs) NoE s := by
  refine wpAny_Call_NameR (name_boot B H hn (by decide +kernel) B.range boot_range (by decide +kernel) ?_)
  cases es with
  | nil => cases hl
  | cons e0 er =>
    refine PyProof.Rows.callWith_type1 (wpAny_mono h (fun vs s₁ g₁ => ?_) fun _ _ f => f) (star_ast e0 _) (stars_plain p er)
    obtain ⟨k₁, r₁⟩ := g₁
    unfold rangeItems at e
    split at e
    · obtain ⟨v, r, rfl, a, q⟩ := r₁.inv_cons
      rw [q.inv_nil]
      obtain ⟨t, rfl⟩ := a.inv_int
      exact call_range_1 ⟨k₁.trans ⟨_, _, rfl, Ext.push _ _⟩, _, _, _, _, _, _, _, rfl, Heap.get?_push_size _ rfl, e⟩
    · obtain ⟨v, r, rfl, a, q⟩ := r₁.inv_cons
      obtain ⟨v', r', rfl, a', q'⟩ := q.inv_cons
      rw [q'.inv_nil]
      obtain ⟨t, rfl⟩ := a.inv_int
      obtain ⟨t', rfl⟩ := a'.inv_int
      exact call_range_2 ⟨k₁.trans ⟨_, _, rfl, Ext.push _ _⟩, _, _, _, _, _, _, _, rfl, Heap.get?_push_size _ rfl, e⟩
    · obtain ⟨v, r, rfl, a, q⟩ := r₁.inv_cons
      obtain ⟨v', r', rfl, a', q'⟩ := q.inv_cons
      obtain ⟨v'', r'', rfl, a'', q''⟩ := q'.inv_cons
      rw [q''.inv_nil]
      obtain ⟨t, rfl⟩ := a.inv_int
      obtain ⟨t', rfl⟩ := a'.inv_int
      obtain ⟨t'', rfl⟩ := a''.inv_int
      have e' := e
      unfold rangeL at e'
      split at e'
      · rename_i hc
        simp only [Bool.and_eq_true, decide_eq_true_eq] at hc
        exact call_range_3 hc.2 ⟨k₁.trans ⟨_, _, rfl, Ext.push _ _⟩, _, _, _, _, _, _, _, rfl, Heap.get?_push_size _ rfl, e⟩ (Or.inl (PyProof.noPylong_small (by have := hc.1.2; omega)))
      · cases e'
    · cases e
theorem items_rvs {P : Addr → Prop} {h : Heap} {Pr : Nat → Value → Prop} {xs : List PyData} (hp : ∀ j v, j < xs.length → Pr j v → ∃ d, xs[j]? = some d ∧ RV P h d v) :
    ∀ (vs : List Value), vs.length = xs.length → (∀ (j : Nat) v, vs[j]? = some v → Pr j v) → RVs P h xs vs := by
  induction xs generalizing Pr with
  | nil => intro vs hl _; cases vs with | nil => exact RVs.nil | cons => simp at hl
  | cons x xs ih =>
    intro vs hl hv
    cases vs with
    | nil => simp at hl
    | cons v vs =>
      obtain ⟨d, e1, r⟩ := hp 0 v (by simp) (hv 0 v rfl)
      simp at e1; subst e1
      refine RVs.cons r (ih (Pr := fun j => Pr (j + 1)) (fun j u hj q => ?_) vs (by simpa using hl) fun j u q => hv (j + 1) u (by simpa using q))
      have := hp (j + 1) u (by simpa using hj) q
      simpa using this
theorem list_range_ok {P : Addr → Prop} {A : Around} {s : Shared} {r : Addr} {a b c : Int} {t u t' : Tok} {xs : List PyData} (hh : A.handled = none) (hr : IsRange s.heap r a b c t u t') (e : rangeL a b c = some xs) :
    wpAny (model prog w) A (call (.type "list") [.ref r]) (GvN P s xs) NoE s := by
  unfold rangeL at e
  split at e
  · rename_i hc
    simp only [Bool.and_eq_true, decide_eq_true_eq] at hc
    cases e
    refine call_list_range hh hr hc.1.1.1.1 (n := (Builtin.Range.rangeSize a b c).toNat) (by have := hc.1.1.1.2; omega) (by have := hc.1.1.2; unfold bigN at this; omega) fun h' tk acc' c' hk hS hacc => ?_
    refine ⟨_, acc'.toList, rfl, get_size_none _, ⟨h', tk, rfl, hk⟩, ⟨c', by simpa using hS⟩, ?_⟩
    refine items_rvs (Pr := fun i v => ∃ t, v = .int (a + i * c) t) (fun j v hj q => ?_) _ (by simp [hacc.1]) fun j v q => hacc.2 j v (by simpa using q)
    obtain ⟨t, rfl⟩ := q
    have hj' : j < (Builtin.Range.rangeSize a b c).toNat := by simpa using hj
    exact ⟨.int (a + (j : Int) * c), by simp [hj'], RV.int _ _⟩
  · cases e
theorem list_str_ok {P : Addr → Prop} {A : Around} {s : Shared} {x : Str} {t : Tok} (hh : A.handled = none) (hl : x.length ≤ bigN) :
    wpAny (model prog w) A (call (.type "list") [.str x t]) (GvN P s (x.cps.toList.map chr1)) NoE s := by
  refine call_list_str hh x t (fun h' tk acc' c' hk hS hacc => ?_) (by rw [sizeLine_eq]; unfold bigN at hl; have : x.cps.size ≤ 4096 := hl; omega)
  refine ⟨_, acc'.toList, rfl, get_size_none _, ⟨h', tk, rfl, hk⟩, ⟨c', by simpa using hS⟩, ?_⟩
  refine items_rvs (Pr := SignAt x) (fun j v hj q => ?_) _ (by simp [hacc.1]) fun j v q => hacc.2 j v (by simpa using q)
  obtain ⟨c, u, e1, rfl⟩ := q
  exact ⟨chr1 c, by simp [e1], RV.str _ _⟩
theorem view_ev {e : IE} {σ : Loc} {x : PyData} (h : ev Γ hG e σ = some x) : view e σ (ev Γ hG e σ) = some x := by
  unfold view
  split
  · split
    · rename_i hs; simp only [ev_e0, ev_e1, ev_e2, ev_e3, ev_e4, ev_e5, ev_e6, ev_e7, ev_e8, ev_e9, ev_e10, ev_e11, ev_e12, ev_e13, ev_e14, ev_e15, ev_e16, ev_e17, ev_e18, ev_e19, ev_e20, ev_e21, ev_e22, ev_e24, hs] at h; cases h
    · exact h
  · cases h
  · exact h
theorem tst_plain {env : Env} {pl : Nat → Place} {sm : List (Str × Nat)} {σ : Loc} {P : Addr → Prop} {A : Around} {s : Shared} {b : Bool} {e : IE} (B : Base prog w K hB T Γ hG k) (hw : wf T env.scope.names sm e = true) (H : Here env pl sm σ hB P A k s) (ht : (view e σ (ev Γ hG e σ)).bind truth = some b)
    (hev : ∀ d, ev Γ hG e σ = some d → wpAny (model prog w) A (eval e.ast env) (Gv P s d) NoE s)
    (he : isTrue e.ast env (eval e.ast env) = (do let v ← eval e.ast env; standAt e.ast.pos; holding [v] (truthy v))) : wpAny (model prog w) A (isTrue e.ast env (eval e.ast env)) (GvT s b) NoE s := by
  cases hv : view e σ (ev Γ hG e σ) with
  | none => rw [hv] at ht; cases ht
  | some x =>
    rw [hv] at ht
    refine wpAny_isTrue_value (wpAny_mono (view_of B H hw hv (hev x)) (fun v s₁ g₁ => ?_) fun _ _ f => f) he
    exact wpAny_mono (truth_ok g₁.2 ht) (fun c s₂ g₂ => ⟨g₂.1, g₁.1.trans g₂.2⟩) fun _ _ f => f
theorem wpAny_of_eq' {α : Type} {M : Model} {A : Around} {t t' : Sem α} {Q : α → Shared → Prop} {s : Shared} (e : t = t') (h : wpAny M A t' Q NoE s) : wpAny M A t Q NoE s := e ▸ h
theorem tests_false {env : Env} {A : Around} {s : Shared} : ∀ (es : List Expr) {Q : Bool → Shared → Prop}, Q false s →
    wpAny (model prog w) A (forIn es false fun c r => if r = true then do let ok ← isTrue c env (eval c env); pure (ForInStep.yield ok) else pure (ForInStep.yield r)) Q NoE s
  | [], _, q => wpAny_pure q
  | e :: es, _, q => by
    rw [List.forIn_cons]
    simp only [Bool.false_eq_true, if_false, pure_bind]
    exact tests_false es q
noncomputable def compG' (Γ : Nat → List PyData → Option PyData) (hG : Hs) (elt : IE) (t : Tgt) (it2 : IT) (t2 : Tgt) (σ : Loc) (v : PyData) : Option (List PyData) := match t.bind v σ with
  | none => none
  | some σ' => match evit Γ hG it2 σ' with
    | none => none
    | some ys => gather (fun u => match t2.bind u σ' with
      | none => none
      | some σ'' => (ev Γ hG elt σ'').map fun x => [x]) ys
theorem compG_eq {elt : IE} {t : Tgt} {it2 : IT} {t2 : Tgt} {σ : Loc} : compG' Γ hG elt t it2 t2 σ = compG Γ hG elt t it2 t2 σ := by
  funext v
  unfold compG compG'
  cases t.bind v σ with
  | none => rfl
  | some σ' =>
    simp only
    cases evit Γ hG it2 σ' with
    | none => rfl
    | some ys =>
      have e : (fun u => match t2.bind u σ' with
        | none => none
        | some σ'' => (ev Γ hG elt σ'').map fun x => [x]) = compF Γ hG elt t2 .nil σ' := by
        funext u
        unfold compF
        cases t2.bind u σ' with
        | none => rfl
        | some σ'' => simp [evIfs_e0, evIfs_e1]
      exact congrArg (fun f => gather f ys) e
theorem ifs_nil_ok {names : List (Str × NameKind)} {sm' : List (Str × Nat)} {A : Around} : IfsOk prog w hB Γ hG names sm' A k .nil := fun _ _ _ _ _ _ _ _ e => by cases e; exact wpAny_pure ⟨rfl, Kp.refl _⟩
theorem blk_done {env : Env} {pl : Nat → Place} {sm : List (Str × Nat)} {σ : Loc} {P : Addr → Prop} {A : Around} {s s₁ s' : Shared} {ds : List PyData} {D C : Addr} (H₁ : Here env pl sm σ hB P A k s₁) (k₁ : Kp s s₁) (b : BlkEnd P s₁ ds D C s') :
    compPost (model prog w) A NoE none (Gv P s (.list ds)) (.ref D) C (.ok .next) s' := by
  obtain ⟨hD, hC, hDC, ⟨m, hn⟩, ⟨ys, hpl, hr⟩, kp⟩ := b
  refine ⟨m, hn, fun h'' hs'' => ⟨k₁.trans ?_, ?_⟩⟩
  · obtain ⟨h', tk, rfl, hext⟩ := kp
    exact ⟨h'', tk, rfl, fun b o eb => hs''.extBut b o (fun q => by rw [q, hC] at eb; cases eb) (hext b o eb)⟩
  · refine RV.list (vs := ys) (H₁.fresh D hD) ?_ ?_
    · obtain ⟨n, ho⟩ := hpl; exact ⟨_, hs''.extBut _ _ hDC ho, rfl, n, rfl⟩
    · exact hr.map fun a o q eb => ⟨q.1, hs''.extBut _ _ q.2.1 eb⟩
theorem isMeth_inv {c : Addr} {m : Str} {f : Addr} (h : isMeth K c m f = true) : findIn K (.ref c) m = some (some (.ref f)) ∧ typeIn K (.ref f) = some (.type "function") ∧ keepIn K (.ref f) = true ∧ m ≠ "_headers" := by
  simp only [isMeth, Bool.and_eq_true, beq_iff_eq, bne_iff_ne] at h
  exact ⟨h.1.1.1, h.1.1.2, h.1.2, h.2⟩
theorem call_inst {env : Env} {A : Around} {s : Shared} {o : Expr} {name : Str} {apos pos : Pos} {args : List Expr} {kws : List Keyword} {Q : Value → Shared → Prop}
    (hbase : attributeBase o name env (eval o env) = eval o env) (hform : methodCallForm (args.length + kws.length) (backTo pos (starEach args env)) (backToKw pos (keywordEach kws env)) = true) (hline : apos.endLine = pos.line)
    (h : wpAny (model prog w) A (eval o env) (fun ov s₁ => ∀ pl, wpAny (model prog w) A (getMethod ov name pl) (fun fx s₂ => wpAny (model prog w) A (callWith pos fx.1 fx.2 (backTo pos (starEach args env)) (backToKw pos (keywordEach kws env))) Q NoE s₂) NoE s₁) NoE s) :
    wpAny (model prog w) A (eval (.Call (.Attribute o name apos) args kws pos) env) Q NoE s := by
  rw [arm_eval_Call, hbase]
  refine wpAny_bind (wpAny_mono h (fun ov s₁ h₁ => ?_) fun _ _ e => e)
  refine wpAny_bind (wpAny_standAt ?_)
  have hpos : methodCallPos true o env apos pos = pure pos := by unfold methodCallPos; simp [hline]
  unfold methodCall
  rw [hform]
  refine wpAny_bind (wpAny_holding (wpAny_mono (h₁ _) (fun fx s₂ h₂ => ?_) fun _ _ e => e))
  exact wpAny_bind (wpAny_of_eq hpos h₂)
theorem hcall_at {env : Env} {pl : Nat → Place} {sm : List (Str × Nat)} {σ : Loc} {P : Addr → Prop} {A : Around} {s : Shared} {m x : Str} {i : Nat} {px ap p : Pos} {es : IEs} {f a : Addr} {v : Value} {xs : List PyData} {Q : Value → Shared → Prop} (B : Base prog w K hB T Γ hG k) (H : Here env pl sm σ hB P A k s) (hx : sm.lookup x = some i) (hp : plainName x = true) (hline : ap.endLine = p.line) (hl : es.len < 20)
    (q1 : At s.heap (pl i) v) (hi : HInst hG.cls P s.heap a v) (hf : isMeth K hG.cls m f = true) (ha' : wpAny (model prog w) A (spliced (backTo p (starEach es.ast env))) (GvS P s xs) NoE s) (hnil : es = .nil → xs = [])
    (h : ∀ s₁ vs, Kp s s₁ → RVs P s₁.heap xs vs → wpAny (model prog w) A (call (.ref f) (v :: vs)) Q NoE s₁) :
    wpAny (model prog w) A (eval (.Call (.Attribute (.Name x px) m ap) es.ast [] p) env) Q NoE s := by
  obtain ⟨f1, f2, f3, f4⟩ := isMeth_inv hf
  refine call_inst rfl ?_ hline (name_var H hx hp q1 fun pl => ?_)
  · unfold methodCallForm
    rw [stars_plain', len_ast, show backToKw p (keywordEach [] env) = [] from rfl]
    simp only [Bool.true_and, List.length_nil, Nat.add_zero, List.isEmpty_nil, List.all_nil, if_true, decide_eq_true_eq]
    omega
  obtain ⟨ib, ox, od, rfl, I, hd⟩ := hi.inst
  have X : K.In s.heap := B.kin.keeps H.base
  refine method_fn X I B.hd.ga B.hd.gt f1 f2 (by show (lookIn m od).map _ = _; rw [hd.2 m f4]; rfl) ?_
  cases es with
  | nil =>
    refine callWith_K0 X f3 ?_
    rw [hnil rfl] at h
    exact h s [] (Kp.refl _) RVs.nil
  | cons e0 er =>
    refine callWith_K X f3 (wpAny_mono ha' (fun vs s₁ g₁ => ⟨X.keeps g₁.1.ext, ?_⟩) fun _ _ f => f) (star_ast e0 _) (stars_plain p er)
    exact h s₁ vs g₁.1 g₁.2
theorem hcall_ok {env : Env} {pl : Nat → Place} {sm : List (Str × Nat)} {σ : Loc} {P : Addr → Prop} {A : Around} {s : Shared} {m x : Str} {i : Nat} {px ap p : Pos} {es : IEs} {kvs : List PyData} {f : Addr} {xs : List PyData} {Q : Value → Shared → Prop} (B : Base prog w K hB T Γ hG k) (H : Here env pl sm σ hB P A k s) (hx : sm.lookup x = some i) (hp : plainName x = true) (hline : ap.endLine = p.line) (hl : es.len < 20)
    (hk : σ.hdr i hG.cls = some kvs) (hf : isMeth K hG.cls m f = true) (ha : ∀ v : Value, At s.heap (pl i) v → wpAny (model prog w) A (spliced (backTo p (starEach es.ast env))) (GvS P s xs) NoE s) (hnil : es = .nil → xs = [])
    (h : ∀ v s₁ vs, Kp s s₁ → HRead hG.cls P s₁.heap kvs v → RVs P s₁.heap xs vs → wpAny (model prog w) A (call (.ref f) (v :: vs)) Q NoE s₁) :
    wpAny (model prog w) A (eval (.Call (.Attribute (.Name x px) m ap) es.ast [] p) env) Q NoE s := by
  obtain ⟨v, q1, hr⟩ := H.hread hx hk
  obtain ⟨a, ws, hi, hli, hrs⟩ := id hr
  exact hcall_at B H hx hp hline hl q1 hi hf (ha v q1) hnil fun s₁ vs k₁ r => h v s₁ vs k₁ (HRead.mapx hr k₁.ext fun _ _ p _ => p) r
theorem conv_ok {env : Env} {pl : Nat → Place} {sm : List (Str × Nat)} {σ : Loc} {P : Addr → Prop} {A : Around} {s : Shared} {x : Str} {i : Nat} {px ap pc pk p : Pos} {e0 : IE} {nm : Bool} {kc : Nat} {kvs : List PyData} {z : Str} (B : Base prog w K hB T Γ hG k) (H : Here env pl sm σ hB P A k s) (hx : sm.lookup x = some i) (hp : plainName x = true) (hline : ap.endLine = p.line)
    (hk : σ.hdr i hG.cls = some kvs) (h0 : wpAny (model prog w) A (eval e0.ast env) (Gv P s (.str z)) NoE s) (hc : cleanS z = true) :
    wpAny (model prog w) A (eval (IE.conv x i px ap e0 nm kc pc pk p).ast env) (Gv P s (.str z)) NoE s := by
  obtain ⟨v, q1, hr⟩ := H.hread hx hk
  obtain ⟨f, hf, hcv⟩ := B.hd.conv
  obtain ⟨f1, f2, f3, f4⟩ := isMeth_inv hf
  refine call_inst rfl ?_ hline (name_var H hx hp q1 fun pl => ?_)
  · unfold methodCallForm
    rw [show starEach [e0.ast] env = (false, eval e0.ast env) :: starEach [] env from star_ast e0 []]; rfl
  obtain ⟨a, ws, hi, hl, hrs⟩ := hr
  obtain ⟨ib, ox, od, rfl, I, hd⟩ := hi.inst
  have X : K.In s.heap := B.kin.keeps H.base
  refine method_fn X I B.hd.ga B.hd.gt f1 f2 (by show (lookIn _ od).map _ = _; rw [hd.2 _ f4]; rfl) ?_
  refine callWith_KW X f3 rfl (args_cons (wpAny_mono h0 (fun v₁ s₁ g₁ => args_nil ?_) fun _ _ f => f) (star_ast e0 _)) (by rw [star_ast]; rfl) (star_ast e0 _)
  refine kwAll_cons (wpAny_Constant_bool (kwAll_nil ⟨X.keeps g₁.1.ext, ?_⟩))
  obtain ⟨t, rfl⟩ := g₁.2.inv_str
  refine wpAny_mono (hcv A s₁ (.ref ib) z t nm (H.kp g₁.1).base (H.room.le (Nat.le_trans (by decide) B.hd.pos)) hc) (fun r s₂ g₂ => ?_) fun _ _ f => f
  obtain ⟨k₂, t', rfl⟩ := g₂
  exact ⟨g₁.1.trans k₂, RV.str _ _⟩
mutual
theorem ev_ok (B : Base prog w K hB T Γ hG k) : ∀ (e : IE) {env : Env} {pl : Nat → Place} {sm : List (Str × Nat)} {σ : Loc} {P : Addr → Prop} {A : Around} {s : Shared} {d : PyData}, wf T env.scope.names sm e = true → Here env pl sm σ hB P A k s → ev Γ hG e σ = some d →
    wpAny (model prog w) A (eval e.ast env) (Gv P s d) NoE s
  | .int i kk p, env, pl, sm, σ, P, A, s, d, hw, H, e => by cases e; exact wpAny_Constant_int Gv.int
  | .str x kk p, env, pl, sm, σ, P, A, s, d, hw, H, e => by cases e; exact wpAny_Constant_str Gv.str
  | .bool b kk p, env, pl, sm, σ, P, A, s, d, hw, H, e => by cases e; exact wpAny_Constant_bool Gv.bool
  | .none kk p, env, pl, sm, σ, P, A, s, d, hw, H, e => by cases e; exact wpAny_Constant_none ⟨Kp.refl _, RV.none⟩
  | .var x i p, env, pl, sm, σ, P, A, s, d, hw, H, e => by
    simp only [ev_e0, ev_e1, ev_e2, ev_e3, ev_e4, ev_e5, ev_e6, ev_e7, ev_e8, ev_e9, ev_e10, ev_e11, ev_e12, ev_e13, ev_e14, ev_e15, ev_e16, ev_e17, ev_e18, ev_e19, ev_e20, ev_e21, ev_e22, ev_e24] at e
    split at e
    · rename_i y hs
      cases e
      simp only [wf_e1, wf_e2, wf_e3, wf_e4, wf_e5, wf_e6, wf_e7, wf_e8, wf_e9, wf_e10, wf_e11, wf_e12, wf_e13, wf_e14, wf_e15, wf_e16, wf_e17, wf_e18, wf_e19, wf_e20, wf_e21, Bool.and_eq_true, beq_iff_eq] at hw
      obtain ⟨v, a, b⟩ := H.slots x i _ hw.1 hs
      exact name_var H hw.1 hw.2 a ⟨Kp.refl _, b⟩
    · cases e
  | .glob x d' p, env, pl, sm, σ, P, A, s, d, hw, H, e => by
    cases e
    simp only [wf_e1, wf_e2, wf_e3, wf_e4, wf_e5, wf_e6, wf_e7, wf_e8, wf_e9, wf_e10, wf_e11, wf_e12, wf_e13, wf_e14, wf_e15, wf_e16, wf_e17, wf_e18, wf_e19, wf_e20, wf_e21, Bool.and_eq_true, beq_iff_eq] at hw
    cases hg : T.G.lookup x with
    | none => rw [hg] at hw; cases hw.2
    | some d'' =>
      rw [hg] at hw
      have e1 := sameFlat_eq hw.2
      subst e1
      obtain ⟨v, h1, h2⟩ := B.g x d'' hg
      refine name_glob B H hw.1.1 (plainName_1 hw.1.2) h1 ⟨Kp.refl _, ?_⟩
      have h3 := h2 s.heap
      have h4 := hw.2
      cases d'' with
      | int i => obtain ⟨t, rfl, _⟩ := reads_int_inv h3; exact RV.int _ _
      | str z => obtain ⟨t, rfl, _⟩ := reads_str_inv h3; exact RV.str _ _
      | _ => cases h4
  | .bin op a b p, env, pl, sm, σ, P, A, s, d, hw, H, e => by
    simp only [wf_e1, wf_e2, wf_e3, wf_e4, wf_e5, wf_e6, wf_e7, wf_e8, wf_e9, wf_e10, wf_e11, wf_e12, wf_e13, wf_e14, wf_e15, wf_e16, wf_e17, wf_e18, wf_e19, wf_e20, wf_e21, Bool.and_eq_true] at hw
    simp only [ev_e0, ev_e1, ev_e2, ev_e3, ev_e4, ev_e5, ev_e6, ev_e7, ev_e8, ev_e9, ev_e10, ev_e11, ev_e12, ev_e13, ev_e14, ev_e15, ev_e16, ev_e17, ev_e18, ev_e19, ev_e20, ev_e21, ev_e22, ev_e24] at e
    split at e
    · cases e
    · rename_i x hx
      split at e
      · cases e
      · rename_i y hy
        refine wpAny_BinOp (wpAny_mono (view_of B H hw.1 hx (ev_ok B a hw.1 H)) (fun va s₁ g₁ => ?_) fun _ _ f => f)
        have H₁ := H.kp g₁.1
        refine wpAny_mono (view_of B H₁ hw.2 hy (ev_ok B b hw.2 H₁)) (fun vb s₂ g₂ => ?_) fun _ _ f => f
        have H₂ := H₁.kp g₂.1
        exact wpAny_mono (binop_ok H₂.fresh (g₁.2.keeps g₂.1.ext) g₂.2 e) (fun _ _ g => Gv.after (g₁.1.trans g₂.1) g) fun _ _ f => f
  | .neg a p, env, pl, sm, σ, P, A, s, d, hw, H, e => by
    simp only [wf_e1, wf_e2, wf_e3, wf_e4, wf_e5, wf_e6, wf_e7, wf_e8, wf_e9, wf_e10, wf_e11, wf_e12, wf_e13, wf_e14, wf_e15, wf_e16, wf_e17, wf_e18, wf_e19, wf_e20, wf_e21] at hw
    simp only [ev_e0, ev_e1, ev_e2, ev_e3, ev_e4, ev_e5, ev_e6, ev_e7, ev_e8, ev_e9, ev_e10, ev_e11, ev_e12, ev_e13, ev_e14, ev_e15, ev_e16, ev_e17, ev_e18, ev_e19, ev_e20, ev_e21, ev_e22, ev_e24] at e
    split at e
    · rename_i i hx
      cases e
      refine wpAny_UnaryOp (wpAny_mono (ev_ok B a hw H hx) (fun va s₁ g₁ => ?_) fun _ _ f => f)
      obtain ⟨t, rfl⟩ := g₁.2.inv_int
      exact neg_int (Gv.after g₁.1 Gv.int)
    · cases e
  | .not a p, env, pl, sm, σ, P, A, s, d, hw, H, e => by
    simp only [wf_e1, wf_e2, wf_e3, wf_e4, wf_e5, wf_e6, wf_e7, wf_e8, wf_e9, wf_e10, wf_e11, wf_e12, wf_e13, wf_e14, wf_e15, wf_e16, wf_e17, wf_e18, wf_e19, wf_e20, wf_e21] at hw
    simp only [ev_e0, ev_e1, ev_e2, ev_e3, ev_e4, ev_e5, ev_e6, ev_e7, ev_e8, ev_e9, ev_e10, ev_e11, ev_e12, ev_e13, ev_e14, ev_e15, ev_e16, ev_e17, ev_e18, ev_e19, ev_e20, ev_e21, ev_e22, ev_e24] at e
    split at e
    · cases e
    · rename_i x hx
      cases ht : truth x with
      | none => rw [ht] at e; cases e
      | some b =>
        rw [ht] at e; cases e
        refine wpAny_UnaryOp (wpAny_mono (view_of B H hw hx (ev_ok B a hw H)) (fun va s₁ g₁ => ?_) fun _ _ f => f)
        refine not_value (wpAny_mono (truth_ok g₁.2 ht) (fun c s₂ g₂ => ?_) fun _ _ f => f)
        obtain ⟨rfl, k₂⟩ := g₂
        exact ⟨g₁.1.trans k₂, RV.bool _⟩
  | .cmp op a b p, env, pl, sm, σ, P, A, s, d, hw, H, e => by
    simp only [wf_e1, wf_e2, wf_e3, wf_e4, wf_e5, wf_e6, wf_e7, wf_e8, wf_e9, wf_e10, wf_e11, wf_e12, wf_e13, wf_e14, wf_e15, wf_e16, wf_e17, wf_e18, wf_e19, wf_e20, wf_e21, Bool.and_eq_true] at hw
    simp only [ev_e0, ev_e1, ev_e2, ev_e3, ev_e4, ev_e5, ev_e6, ev_e7, ev_e8, ev_e9, ev_e10, ev_e11, ev_e12, ev_e13, ev_e14, ev_e15, ev_e16, ev_e17, ev_e18, ev_e19, ev_e20, ev_e21, ev_e22, ev_e24] at e
    split at e
    · cases e
    · rename_i x hx
      split at e
      · cases e
      · rename_i y hy
        cases hc : cmpop op x y with
        | none => rw [hc] at e; cases e
        | some c =>
          rw [hc] at e; cases e
          refine wpAny_Compare1 (wpAny_mono (view_of B H hw.1 hx (ev_ok B a hw.1 H)) (fun va s₁ g₁ => ?_) fun _ _ f => f) (marks_ast op b)
          have H₁ := H.kp g₁.1
          refine wpAny_mono (view_of B H₁ hw.2 hy (ev_ok B b hw.2 H₁)) (fun vb s₂ g₂ => ?_) fun _ _ f => f
          exact wpAny_mono (cmpop_ok H.room (g₁.2.keeps g₂.1.ext) g₂.2 hc) (fun _ _ g => Gv.after (g₁.1.trans g₂.1) g) fun _ _ f => f
  | .boolop op es p, env, pl, sm, σ, P, A, s, d, hw, H, e => evB_ok B es op hw H e p
  | .ifexp t b o p, env, pl, sm, σ, P, A, s, d, hw, H, e => by
    simp only [wf_e1, wf_e2, wf_e3, wf_e4, wf_e5, wf_e6, wf_e7, wf_e8, wf_e9, wf_e10, wf_e11, wf_e12, wf_e13, wf_e14, wf_e15, wf_e16, wf_e17, wf_e18, wf_e19, wf_e20, wf_e21, Bool.and_eq_true] at hw
    simp only [ev_e0, ev_e1, ev_e2, ev_e3, ev_e4, ev_e5, ev_e6, ev_e7, ev_e8, ev_e9, ev_e10, ev_e11, ev_e12, ev_e13, ev_e14, ev_e15, ev_e16, ev_e17, ev_e18, ev_e19, ev_e20, ev_e21, ev_e22, ev_e24] at e
    split at e
    · cases e
    · rename_i x hx
      split at e
      · cases e
      · rename_i ht
        refine wpAny_IfExp (wpAny_mono (tst_ok B t hw.1.1 H (b := true) (by rw [hx]; exact ht) (fun _ => ev_ok B t hw.1.1 H)) (fun c s₁ g₁ => ?_) fun _ _ f => f)
        obtain ⟨rfl, k₁⟩ := g₁
        exact wpAny_mono (ev_ok B b hw.1.2 (H.kp k₁) e) (fun _ _ g => Gv.after k₁ g) fun _ _ f => f
      · rename_i ht
        refine wpAny_IfExp (wpAny_mono (tst_ok B t hw.1.1 H (b := false) (by rw [hx]; exact ht) (fun _ => ev_ok B t hw.1.1 H)) (fun c s₁ g₁ => ?_) fun _ _ f => f)
        obtain ⟨rfl, k₁⟩ := g₁
        exact wpAny_mono (ev_ok B o hw.2 (H.kp k₁) e) (fun _ _ g => Gv.after k₁ g) fun _ _ f => f
  | .callF f x px es p, env, pl, sm, σ, P, A, s, d, hw, H, e => by
    simp only [wf_e1, wf_e2, wf_e3, wf_e4, wf_e5, wf_e6, wf_e7, wf_e8, wf_e9, wf_e10, wf_e11, wf_e12, wf_e13, wf_e14, wf_e15, wf_e16, wf_e17, wf_e18, wf_e19, wf_e20, wf_e21, Bool.and_eq_true, beq_iff_eq, decide_eq_true_eq] at hw
    obtain ⟨⟨⟨⟨h1, h2⟩, h3⟩, h4⟩, h5⟩ := hw
    simp only [ev_e0, ev_e1, ev_e2, ev_e3, ev_e4, ev_e5, ev_e6, ev_e7, ev_e8, ev_e9, ev_e10, ev_e11, ev_e12, ev_e13, ev_e14, ev_e15, ev_e16, ev_e17, ev_e18, ev_e19, ev_e20, ev_e21, ev_e22, ev_e24] at e
    split at e
    · cases e
    · rename_i xs hx
      cases hf : T.FT.lookup x with
      | none => rw [hf] at h3; cases h3
      | some fa =>
        obtain ⟨f', a⟩ := fa
        rw [hf] at h3
        have e1 : f' = f := by simpa using h3
        subst e1
        obtain ⟨h6, ⟨o, fd, ho, hd⟩, h7⟩ := B.ft x f' a hf
        refine wpAny_Call_NameR (name_glob B H h1 (plainName_1 h2) h6 ?_)
        cases es with
        | nil => cases h5
        | cons e0 er =>
          refine callWith_def (o := o) (fd := fd) hd (wpAny_mono (evs_ok B (.cons e0 er) h4 H hx p) (fun vs s₁ g₁ => ⟨g₁.1.ext _ _ (H.base _ _ ho), ?_⟩) fun _ _ f => f) (star_ast e0 _)
          have H₁ := H.kp g₁.1
          exact wpAny_mono (h7 A s₁ P vs xs d H₁.base H.room H₁.fresh g₁.2 e) (fun _ _ g => Gv.after g₁.1 g) fun _ _ f => f
  | .callB b px es p, env, pl, sm, σ, P, A, s, d, hw, H, e => by
    simp only [wf_e1, wf_e2, wf_e3, wf_e4, wf_e5, wf_e6, wf_e7, wf_e8, wf_e9, wf_e10, wf_e11, wf_e12, wf_e13, wf_e14, wf_e15, wf_e16, wf_e17, wf_e18, wf_e19, wf_e20, wf_e21, Bool.and_eq_true, beq_iff_eq, decide_eq_true_eq] at hw
    obtain ⟨⟨h1, h4⟩, h5⟩ := hw
    simp only [ev_e0, ev_e1, ev_e2, ev_e3, ev_e4, ev_e5, ev_e6, ev_e7, ev_e8, ev_e9, ev_e10, ev_e11, ev_e12, ev_e13, ev_e14, ev_e15, ev_e16, ev_e17, ev_e18, ev_e19, ev_e20, ev_e21, ev_e22, ev_e24] at e
    split at e
    · cases e
    · rename_i xs hx
      have hb : b ≠ .str := by rintro rfl; rw [callB_str_none] at e; cases e
      refine wpAny_Call_NameR (name_boot B H h1 (name_bi b).1 (B.bi b hb) (boot_bi b hb) (name_bi b).2 ?_)
      cases es with
      | nil => cases h5
      | cons e0 er =>
        refine callWith_builtin1 (wpAny_mono (evsV_ok B (.cons e0 er) h4 H hx p) (fun vs s₁ g₁ => ?_) fun _ _ f => f) (star_ast e0 _) (stars_plain p er)
        exact wpAny_mono (callB_ok H.room g₁.2.2 g₁.2.1 e) (fun _ _ g => Gv.after g₁.1 g) fun _ _ f => f
  | .listOf px (.range pr es pe) p, env, pl, sm, σ, P, A, s, d, hw, H, e => by
    simp only [wf_e1, wf_e2, wf_e3, wf_e4, wf_e5, wf_e6, wf_e7, wf_e8, wf_e9, wf_e10, wf_e11, wf_e12, wf_e13, wf_e14, wf_e15, wf_e16, wf_e17, wf_e18, wf_e19, wf_e20, wf_e21, wfit_e0, wfit_e1, wfit_e2, Bool.and_eq_true, beq_iff_eq, decide_eq_true_eq] at hw
    simp only [ev_e0, ev_e1, ev_e2, ev_e3, ev_e4, ev_e5, ev_e6, ev_e7, ev_e8, ev_e9, ev_e10, ev_e11, ev_e12, ev_e13, ev_e14, ev_e15, ev_e16, ev_e17, ev_e18, ev_e19, ev_e20, ev_e21, ev_e22, ev_e24] at e
    split at e
    · cases e
    · rename_i ds hds
      cases hr : rangeItems ds with
      | none => rw [hr] at e; cases e
      | some xs =>
        rw [hr] at e; cases e
        refine wpAny_Call_NameR (name_boot B H hw.1 (by decide +kernel) B.list boot_list (by decide +kernel) ?_)
        refine PyProof.Rows.callWith_type1 (args_cons (wpAny_mono (range_call (px := pr) B H hw.2.1.1 hw.2.2 (evs_ok B es hw.2.1.2 H hds pe) hr) (fun v s₁ g₁ => args_nil ?_) fun _ _ f => f) rfl) rfl rfl
        obtain ⟨k₁, r, a, b, c, t, u, t', rfl, h1, h2⟩ := g₁
        exact wpAny_mono (list_range_ok H.room.handled h1 h2) (fun _ _ g => Gv.after k₁ (g.toGv (H.kp k₁).fresh)) fun _ _ f => f
  | .listOf px (.e e0) p, env, pl, sm, σ, P, A, s, d, hw, H, e => by
    simp only [wf_e1, wf_e2, wf_e3, wf_e4, wf_e5, wf_e6, wf_e7, wf_e8, wf_e9, wf_e10, wf_e11, wf_e12, wf_e13, wf_e14, wf_e15, wf_e16, wf_e17, wf_e18, wf_e19, wf_e20, wf_e21, wfit_e0, wfit_e1, wfit_e2, Bool.and_eq_true, beq_iff_eq] at hw
    simp only [ev_e0, ev_e1, ev_e2, ev_e3, ev_e4, ev_e5, ev_e6, ev_e7, ev_e8, ev_e9, ev_e10, ev_e11, ev_e12, ev_e13, ev_e14, ev_e15, ev_e16, ev_e17, ev_e18, ev_e19, ev_e20, ev_e21, ev_e22, ev_e24] at e
    split at e
    · rename_i x hx
      split at e
      · rename_i hl
        cases e
        refine wpAny_Call_NameR (name_boot B H hw.1 (by decide +kernel) B.list boot_list (by decide +kernel) ?_)
        refine PyProof.Rows.callWith_type1 (args_cons (wpAny_mono (ev_ok B e0 hw.2 H hx) (fun v s₁ g₁ => args_nil ?_) fun _ _ f => f) (star_ast e0 _)) (star_ast e0 _) rfl
        obtain ⟨t, rfl⟩ := g₁.2.inv_str
        exact wpAny_mono (list_str_ok H.room.handled hl) (fun _ _ g => Gv.after g₁.1 (g.toGv (H.kp g₁.1).fresh)) fun _ _ f => f
      · cases e
    · cases e
  | .meth m o ap es p, env, pl, sm, σ, P, A, s, d, hw, H, e => by
    simp only [wf_e1, wf_e2, wf_e3, wf_e4, wf_e5, wf_e6, wf_e7, wf_e8, wf_e9, wf_e10, wf_e11, wf_e12, wf_e13, wf_e14, wf_e15, wf_e16, wf_e17, wf_e18, wf_e19, wf_e20, wf_e21, Bool.and_eq_true, beq_iff_eq, decide_eq_true_eq] at hw
    obtain ⟨⟨⟨⟨h1, h2⟩, h3⟩, h4⟩, h5⟩ := hw
    simp only [ev_e0, ev_e1, ev_e2, ev_e3, ev_e4, ev_e5, ev_e6, ev_e7, ev_e8, ev_e9, ev_e10, ev_e11, ev_e12, ev_e13, ev_e14, ev_e15, ev_e16, ev_e17, ev_e18, ev_e19, ev_e20, ev_e21, ev_e22, ev_e24] at e
    split at e
    · cases e
    · rename_i x hx
      split at e
      · cases e
      · rename_i xs hxs
        refine call_meth h4 h5 h3 (wpAny_mono (ev_ok B o h1 H hx) (fun v s₁ g₁ => ?_) fun _ _ f => f)
        obtain ⟨z, rfl⟩ := meth_str e
        obtain ⟨t, rfl⟩ := g₁.2.inv_str
        refine ⟨z, t, rfl, ?_⟩
        have H₁ := H.kp g₁.1
        cases es with
        | nil =>
          cases hxs
          exact callWith_method0 (wpAny_mono (meth_ok (vs := []) H₁.fresh g₁.2 rfl (fun i d q => by simp at q) e) (fun _ _ g => Gv.after g₁.1 g) fun _ _ f => f)
        | cons e0 er =>
          refine callWith_method1 (first := [.str z t]) (wpAny_mono (evsV_ok B (.cons e0 er) h2 H₁ hxs p) (fun vs s₂ g₂ => ?_) fun _ _ f => f) (star_ast e0 _) (stars_plain p er)
          exact wpAny_mono (meth_ok (vs := vs) (H₁.kp g₂.1).fresh (RV.str z t) g₂.2.1 g₂.2.2 e) (fun _ _ g => Gv.after (g₁.1.trans g₂.1) g) fun _ _ f => f
  | .sub a i p, env, pl, sm, σ, P, A, s, d, hw, H, e => by
    simp only [wf_e1, wf_e2, wf_e3, wf_e4, wf_e5, wf_e6, wf_e7, wf_e8, wf_e9, wf_e10, wf_e11, wf_e12, wf_e13, wf_e14, wf_e15, wf_e16, wf_e17, wf_e18, wf_e19, wf_e20, wf_e21, Bool.and_eq_true] at hw
    simp only [ev_e0, ev_e1, ev_e2, ev_e3, ev_e4, ev_e5, ev_e6, ev_e7, ev_e8, ev_e9, ev_e10, ev_e11, ev_e12, ev_e13, ev_e14, ev_e15, ev_e16, ev_e17, ev_e18, ev_e19, ev_e20, ev_e21, ev_e22, ev_e24] at e
    split at e
    · cases e
    · rename_i x hx
      split at e
      · cases e
      · rename_i y hy
        refine Subscript_ (wpAny_mono (view_of B H hw.1 hx (ev_ok B a hw.1 H)) (fun va s₁ g₁ => ?_) fun _ _ f => f)
        have H₁ := H.kp g₁.1
        refine wpAny_mono (ev_ok B i hw.2 H₁ hy) (fun vb s₂ g₂ => ?_) fun _ _ f => f
        obtain ⟨⟨T', id, hT, hl⟩, hg⟩ := getitem_ok (prog := prog) (w := w) (A := A) (g₁.2.keeps g₂.1.ext) g₂.2 e
        exact tail_any hT hl (wpAny_mono hg (fun _ _ g => Gv.after (g₁.1.trans g₂.1) g) fun _ _ f => f) (subs_ast i _ _)
  | .slc a lo hi st ps p, env, pl, sm, σ, P, A, s, d, hw, H, e => by
    simp only [wf_e1, wf_e2, wf_e3, wf_e4, wf_e5, wf_e6, wf_e7, wf_e8, wf_e9, wf_e10, wf_e11, wf_e12, wf_e13, wf_e14, wf_e15, wf_e16, wf_e17, wf_e18, wf_e19, wf_e20, wf_e21, Bool.and_eq_true] at hw
    simp only [ev_e0, ev_e1, ev_e2, ev_e3, ev_e4, ev_e5, ev_e6, ev_e7, ev_e8, ev_e9, ev_e10, ev_e11, ev_e12, ev_e13, ev_e14, ev_e15, ev_e16, ev_e17, ev_e18, ev_e19, ev_e20, ev_e21, ev_e22, ev_e24] at e
    split at e
    · cases e
    · rename_i x hx
      split at e
      · rename_i l h' s' hl hh hs
        refine Subscript_ (wpAny_mono (view_of B H hw.1.1.1 hx (ev_ok B a hw.1.1.1 H)) (fun va s₁ g₁ => ?_) fun _ _ f => f)
        have H₁ := H.kp g₁.1
        refine wpAny_Slice (wpAny_mono (evo_ok B lo hw.1.1.2 H₁ hl) (fun vl s₂ g₂ => ?_) fun _ _ f => f)
        have H₂ := H₁.kp g₂.1
        refine wpAny_mono (evo_ok B hi hw.1.2 H₂ hh) (fun vu s₃ g₃ => ?_) fun _ _ f => f
        have H₃ := H₂.kp g₃.1
        refine wpAny_mono (evo_ok B st hw.2 H₃ hs) (fun vs s₄ g₄ => ?_) fun _ _ f => f
        have H₄ := H₃.kp g₄.1
        have k4 : Kp s₁ s₄ := (g₂.1.trans g₃.1).trans g₄.1
        have k5 := Kp.push s₄ { cls := .type "slice", data := .fields #[vl, vu, vs] }
        have H₅ := H₄.kp k5
        obtain ⟨⟨T', id, hT, hl⟩, hg⟩ := slice_ok (prog := prog) (w := w) (A := A) (s := { s₄ with heap := s₄.heap.push { cls := .type "slice", data := .fields #[vl, vu, vs] } }) (sl := s₄.heap.objs.size) H₅.fresh (g₁.2.keeps (k4.trans k5).ext) (Heap.get?_push_size _ rfl) g₂.2 g₃.2 g₄.2 e
        cases st with
        | none => exact tail_any (ops := [.ref s₄.heap.objs.size, va]) hT hl (wpAny_mono hg (fun _ _ g => Gv.after (g₁.1.trans (k4.trans k5)) g) fun _ _ f => f) rfl
        | some se => exact tail_any (ops := [va, .ref s₄.heap.objs.size]) hT hl (wpAny_mono hg (fun _ _ g => Gv.after (g₁.1.trans (k4.trans k5)) g) fun _ _ f => f) rfl
      · cases e
  | .lst es p, env, pl, sm, σ, P, A, s, d, hw, H, e => by
    simp only [wf_e1, wf_e2, wf_e3, wf_e4, wf_e5, wf_e6, wf_e7, wf_e8, wf_e9, wf_e10, wf_e11, wf_e12, wf_e13, wf_e14, wf_e15, wf_e16, wf_e17, wf_e18, wf_e19, wf_e20, wf_e21] at hw
    simp only [ev_e0, ev_e1, ev_e2, ev_e3, ev_e4, ev_e5, ev_e6, ev_e7, ev_e8, ev_e9, ev_e10, ev_e11, ev_e12, ev_e13, ev_e14, ev_e15, ev_e16, ev_e17, ev_e18, ev_e19, ev_e20, ev_e21, ev_e22, ev_e24] at e
    split at e
    · cases e
    · rename_i xs hx
      split at e
      · rename_i hl
        cases e
        refine List_ (wpAny_mono (evs_ok B es hw H hx p) (fun vs s₁ g₁ => ?_) fun _ _ f => f)
        have H₁ := H.kp g₁.1
        refine wpAny_newObj_type ⟨g₁.1.trans (Kp.push _ _), RV.newList H₁.fresh.size g₁.2⟩ ?_
        show vs.toArray.size ≤ sizeLine
        rw [List.size_toArray, g₁.2.length, sizeLine_eq]; unfold bigN at hl; omega
      · cases e
  | .tup es kk p, env, pl, sm, σ, P, A, s, d, hw, H, e => by
    simp only [wf_e1, wf_e2, wf_e3, wf_e4, wf_e5, wf_e6, wf_e7, wf_e8, wf_e9, wf_e10, wf_e11, wf_e12, wf_e13, wf_e14, wf_e15, wf_e16, wf_e17, wf_e18, wf_e19, wf_e20, wf_e21] at hw
    simp only [ev_e0, ev_e1, ev_e2, ev_e3, ev_e4, ev_e5, ev_e6, ev_e7, ev_e8, ev_e9, ev_e10, ev_e11, ev_e12, ev_e13, ev_e14, ev_e15, ev_e16, ev_e17, ev_e18, ev_e19, ev_e20, ev_e21, ev_e22, ev_e24] at e
    split at e
    · cases e
    · rename_i xs hx
      split at e
      · rename_i hl
        cases e
        refine Tuple_ (wpAny_mono (evs_ok B es hw H hx p) (fun vs s₁ g₁ => ?_) fun _ _ f => f)
        have H₁ := H.kp g₁.1
        refine wpAny_newObj_type ⟨g₁.1.trans (Kp.push _ _), RV.newTuple H₁.fresh.size g₁.2⟩ ?_
        show vs.toArray.size ≤ sizeLine
        rw [List.size_toArray, g₁.2.length, sizeLine_eq]; unfold bigN at hl; omega
      · cases e
  | .listOf px (.v e0) p, env, pl, sm, σ, P, A, s, d, hw, H, e => by cases e
  | .comp elt t it ifs sc sm' p, env, pl, sm, σ, P, A, s, d, hw, H, e => by
    simp only [wf_e1, wf_e2, wf_e3, wf_e4, wf_e5, wf_e6, wf_e7, wf_e8, wf_e9, wf_e10, wf_e11, wf_e12, wf_e13, wf_e14, wf_e15, wf_e16, wf_e17, wf_e18, wf_e19, wf_e20, wf_e21, Bool.and_eq_true] at hw
    obtain ⟨⟨⟨h1, h2⟩, h3⟩, h4⟩ := hw
    have O := compOk_of h2
    simp only [ev_e0, ev_e1, ev_e2, ev_e3, ev_e4, ev_e5, ev_e6, ev_e7, ev_e8, ev_e9, ev_e10, ev_e11, ev_e12, ev_e13, ev_e14, ev_e15, ev_e16, ev_e17, ev_e18, ev_e19, ev_e20, ev_e21, ev_e22, ev_e24] at e
    split at e
    · cases e
    · rename_i xs hxs
      have e' : (gather (compF Γ hG elt t ifs (clr t.names σ)) xs).map PyData.list = some d := e
      cases hg : gather (compF Γ hG elt t ifs (clr t.names σ)) xs with
      | none => rw [hg] at e'; cases e'
      | some ds =>
        rw [hg] at e'; cases e'
        show wpAny _ _ (eval (.ListComp elt.ast [⟨t.ast, it.ast, ifs.ast, 0⟩] sc p) env) _ _ _
        rw [eval_ListComp]
        refine wpAny_comprehension_free (use := none) rfl (fun _ => fold_ast it _) (closure_eq (O.cells H)) O.kind O.loc (wpAny_mono (evitZ_ok B it h1 H hxs) (fun v s₁ g₁ => ?_) fun _ _ f => f)
        have H₁ := H.kp g₁.1
        refine wpAny_mono g₁.2 (fun iv s₂ g₂ => ?_) fun _ _ f => f
        refine comp1_block (RR := fun acc C => compPost (model prog w) A NoE none (Gv P s (.list ds)) acc C) O H₁ g₂ (evit_len hxs)
          (fun env' pl' σ' P' s' y q Hq eq => ev_ok B elt (by rw [q]; exact h3) Hq eq) (fun env' pl' σ' P' s' b q Hq eq => evIfs_ok B ifs (by rw [q]; exact h4) Hq eq) hg ?_
        exact fun D C s' b => blk_done H₁ g₁.1 b
  | .comp2 elt t it t2 it2 sc sm' p, env, pl, sm, σ, P, A, s, d, hw, H, e => by
    simp only [wf_e1, wf_e2, wf_e3, wf_e4, wf_e5, wf_e6, wf_e7, wf_e8, wf_e9, wf_e10, wf_e11, wf_e12, wf_e13, wf_e14, wf_e15, wf_e16, wf_e17, wf_e18, wf_e19, wf_e20, wf_e21, Bool.and_eq_true, Bool.not_eq_true'] at hw
    obtain ⟨⟨⟨⟨h1, h2⟩, h3⟩, h4⟩, h5⟩ := hw
    have O := compOk_of h2
    simp only [ev_e0, ev_e1, ev_e2, ev_e3, ev_e4, ev_e5, ev_e6, ev_e7, ev_e8, ev_e9, ev_e10, ev_e11, ev_e12, ev_e13, ev_e14, ev_e15, ev_e16, ev_e17, ev_e18, ev_e19, ev_e20, ev_e21, ev_e22, ev_e24] at e
    split at e
    · cases e
    · rename_i xs hxs
      replace e : (gather (compG' Γ hG elt t it2 t2 (clr (t.names ++ t2.names) σ)) xs).bind (fun ds => if ds.length ≤ bigN then some (PyData.list ds) else none) = some d := e
      rw [compG_eq] at e
      cases hg : gather (compG Γ hG elt t it2 t2 (clr (t.names ++ t2.names) σ)) xs with
      | none => rw [hg] at e; cases e
      | some ds =>
        rw [hg] at e
        simp only [Option.bind_some] at e
        split at e
        · rename_i hl
          cases e
          show wpAny _ _ (eval (.ListComp elt.ast [⟨t.ast, it.ast, [], 0⟩, ⟨t2.ast, it2.ast, [], 0⟩] sc p) env) _ _ _
          rw [eval_ListComp]
          refine wpAny_comprehension_free (use := none) rfl (fun _ => fold_ast it _) (closure_eq (O.cells H)) O.kind O.loc (wpAny_mono (evitZ_ok B it h1 H hxs) (fun v s₁ g₁ => ?_) fun _ _ f => f)
          have H₁ := H.kp g₁.1
          refine wpAny_mono g₁.2 (fun iv s₂ g₂ => ?_) fun _ _ f => f
          refine comp2_block (RR := fun acc C => compPost (model prog w) A NoE none (Gv P s (.list ds)) acc C) O H₁ g₂ hl
            (fun env' pl' σ' P' s' y q Hq eq => ev_ok B elt (by rw [q]; exact h4) Hq eq) (fun env' pl' σ' P' s' xs q Hq eq => evit_ok B it2 h5 (by rw [q]; exact h3) Hq eq) (ifs_nil_ok) (fun _ _ => fold_ast it2 _) hg ?_
          exact fun D C s' b => blk_done H₁ g₁.1 b
        · cases e
  | .hmeth m x i px ap es p, env, pl, sm, σ, P, A, s, d, hw, H, e => by
    simp only [wf_e1, wf_e2, wf_e3, wf_e4, wf_e5, wf_e6, wf_e7, wf_e8, wf_e9, wf_e10, wf_e11, wf_e12, wf_e13, wf_e14, wf_e15, wf_e16, wf_e17, wf_e18, wf_e19, wf_e20, wf_e21, Bool.and_eq_true, beq_iff_eq, decide_eq_true_eq] at hw
    obtain ⟨⟨⟨⟨h1, h2⟩, h3⟩, h4⟩, h5⟩ := hw
    simp only [ev_e0, ev_e1, ev_e2, ev_e3, ev_e4, ev_e5, ev_e6, ev_e7, ev_e8, ev_e9, ev_e10, ev_e11, ev_e12, ev_e13, ev_e14, ev_e15, ev_e16, ev_e17, ev_e18, ev_e19, ev_e20, ev_e21, ev_e22, ev_e24] at e
    split at e
    · cases e
    · rename_i kvs hk
      split at e
      · cases e
      · rename_i xs hxs
        obtain ⟨f, hf, hc⟩ := B.hd.get m kvs xs d e
        refine hcall_ok B H h1 h2 h4 h5 hk hf (fun v hv => evs_ok B es h3 H hxs p) (fun q => by subst q; cases hxs; rfl) fun v s₁ vs k₁ hr r => ?_
        have H₁ := H.kp k₁
        exact wpAny_mono (hc A s₁ P v kvs vs xs d H₁.base H₁.room H₁.fresh hr r e) (fun _ _ g => Gv.after k₁ g) fun _ _ f => f
  | .hlist .., _, _, _, _, _, _, _, _, _, _, e => by cases e
  | .conv x i px ap e0 nm kc pc pk p, env, pl, sm, σ, P, A, s, d, hw, H, e => by
    simp only [wf_e1, wf_e2, wf_e3, wf_e4, wf_e5, wf_e6, wf_e7, wf_e8, wf_e9, wf_e10, wf_e11, wf_e12, wf_e13, wf_e14, wf_e15, wf_e16, wf_e17, wf_e18, wf_e19, wf_e20, wf_e21, Bool.and_eq_true, beq_iff_eq] at hw
    obtain ⟨⟨⟨h1, h2⟩, h3⟩, h4⟩ := hw
    simp only [ev_e0, ev_e1, ev_e2, ev_e3, ev_e4, ev_e5, ev_e6, ev_e7, ev_e8, ev_e9, ev_e10, ev_e11, ev_e12, ev_e13, ev_e14, ev_e15, ev_e16, ev_e17, ev_e18, ev_e19, ev_e20, ev_e21, ev_e22, ev_e24] at e
    split at e
    · cases e
    · rename_i kvs hk
      split at e
      · rename_i z hz
        split at e
        · rename_i hcl
          cases e
          exact conv_ok B H h1 h2 h4 hk (ev_ok B e0 h3 H hz) hcl
        · cases e
      · cases e
theorem evs_ok (B : Base prog w K hB T Γ hG k) : ∀ (es : IEs) {env : Env} {pl : Nat → Place} {sm : List (Str × Nat)} {σ : Loc} {P : Addr → Prop} {A : Around} {s : Shared} {ds : List PyData}, wfs T env.scope.names sm es = true → Here env pl sm σ hB P A k s → evs Γ hG es σ = some ds →
    ∀ p, wpAny (model prog w) A (spliced (backTo p (starEach es.ast env))) (GvS P s ds) NoE s
  | .nil, env, pl, sm, σ, P, A, s, ds, hw, H, e, p => by cases e; exact args_nil ⟨Kp.refl _, RVs.nil⟩
  | .cons e0 es, env, pl, sm, σ, P, A, s, ds, hw, H, e, p => by
    simp only [wfs_e0, wfs_e1, Bool.and_eq_true] at hw
    simp only [evs_e0, evs_e1] at e
    split at e
    · cases e
    · rename_i x hx
      split at e
      · cases e
      · rename_i xs hxs
        cases e
        refine args_cons (wpAny_mono (ev_ok B e0 hw.1 H hx) (fun v s₁ g₁ => ?_) fun _ _ f => f) (star_ast e0 _)
        exact wpAny_mono (evs_ok B es hw.2 (H.kp g₁.1) hxs p) (fun vs s₂ g₂ => ⟨g₁.1.trans g₂.1, RVs.cons (g₁.2.keeps g₂.1.ext) g₂.2⟩) fun _ _ f => f
theorem evsV_ok (B : Base prog w K hB T Γ hG k) : ∀ (es : IEs) {env : Env} {pl : Nat → Place} {sm : List (Str × Nat)} {σ : Loc} {P : Addr → Prop} {A : Around} {s : Shared} {ds : List PyData}, wfs T env.scope.names sm es = true → Here env pl sm σ hB P A k s → evsV Γ hG es σ = some ds →
    ∀ p, wpAny (model prog w) A (spliced (backTo p (starEach es.ast env))) (GvWS P s ds) NoE s
  | .nil, env, pl, sm, σ, P, A, s, ds, hw, H, e, p => by cases e; exact args_nil ⟨Kp.refl _, rfl, fun i d q => by simp at q⟩
  | .cons e0 es, env, pl, sm, σ, P, A, s, ds, hw, H, e, p => by
    simp only [wfs_e0, wfs_e1, Bool.and_eq_true] at hw
    simp only [evsV_e0, evsV_e1] at e
    split at e
    · cases e
    · rename_i x hx
      split at e
      · cases e
      · rename_i xs hxs
        cases e
        refine args_cons (wpAny_mono (view_of B H hw.1 hx (ev_ok B e0 hw.1 H)) (fun v s₁ g₁ => ?_) fun _ _ f => f) (star_ast e0 _)
        refine wpAny_mono (evsV_ok B es hw.2 (H.kp g₁.1) hxs p) (fun vs s₂ g₂ => ⟨g₁.1.trans g₂.1, by simp [g₂.2.1], fun i d q => ?_⟩) fun _ _ f => f
        cases i with
        | zero => simp at q; subst q; exact ⟨v, rfl, g₁.2.keeps g₂.1.ext⟩
        | succ j => exact g₂.2.2 j d (by simpa using q)
theorem evo_ok (B : Base prog w K hB T Γ hG k) : ∀ (o : OIE) {env : Env} {pl : Nat → Place} {sm : List (Str × Nat)} {σ : Loc} {P : Addr → Prop} {A : Around} {s : Shared} {l : Option Int}, wfo T env.scope.names sm o = true → Here env pl sm σ hB P A k s → evo Γ hG o σ = some l →
    wpAny (model prog w) A (evalPart o.ast env) (fun v s' => Kp s s' ∧ IsPart v l) NoE s
  | .none, env, pl, sm, σ, P, A, s, l, hw, H, e => by cases e; exact wpAny_pure ⟨Kp.refl _, .none⟩
  | .some e0, env, pl, sm, σ, P, A, s, l, hw, H, e => by
    simp only [evo_e0, evo_e1] at e
    split at e
    · cases e
    · rename_i x hx
      exact wpAny_mono (ev_ok B e0 hw H hx) (fun v s₁ g₁ => ⟨g₁.1, IsPart_of g₁.2 e⟩) fun _ _ f => f
theorem evit_ok (B : Base prog w K hB T Γ hG k) : ∀ (it : IT) (hv : it.isV = false) {env : Env} {pl : Nat → Place} {sm : List (Str × Nat)} {σ : Loc} {P : Addr → Prop} {A : Around} {s : Shared} {xs : List PyData}, wfit T env.scope.names sm it = true → Here env pl sm σ hB P A k s → evit Γ hG it σ = some xs →
    wpAny (model prog w) A (eval it.ast env) (fun v s₁ => Kp s s₁ ∧ wpAny (model prog w) A (pyIter v) (ItGv prog w A P P s₁ xs) NoE s₁) NoE s
  | .v e0, hv, env, pl, sm, σ, P, A, s, xs, hw, H, e => by cases hv
  | .e e0, hv, env, pl, sm, σ, P, A, s, xs, hw, H, e => by
    simp only [evit_e0, evit_e1, evit_e2] at e
    split at e
    · cases e
    · rename_i x hx
      exact wpAny_mono (ev_ok B e0 hw H hx) (fun v s₁ g₁ => ⟨g₁.1, iter_data H.room.handled g₁.2 e⟩) fun _ _ f => f
  | .range px es p, hv, env, pl, sm, σ, P, A, s, xs, hw, H, e => by
    simp only [wfit_e0, wfit_e1, wfit_e2, Bool.and_eq_true, beq_iff_eq, decide_eq_true_eq] at hw
    simp only [evit_e0, evit_e1, evit_e2] at e
    split at e
    · cases e
    · rename_i ds hds
      refine wpAny_mono (range_call B H hw.1.1 hw.2 (evs_ok B es hw.1.2 H hds p) e) (fun v s₁ g₁ => ?_) fun _ _ f => f
      obtain ⟨k₁, r, a, b, c, t, u, t', rfl, h1, h2⟩ := g₁
      exact ⟨k₁, iter_range H.room.handled h1 h2⟩
theorem evitZ_ok (B : Base prog w K hB T Γ hG k) : ∀ (it : IT) {env : Env} {pl : Nat → Place} {sm : List (Str × Nat)} {σ : Loc} {P : Addr → Prop} {A : Around} {s : Shared} {xs : List PyData}, wfit T env.scope.names sm it = true → Here env pl sm σ hB P A k s → evit Γ hG it σ = some xs →
    wpAny (model prog w) A (eval it.ast env) (fun v s₁ => Kp s s₁ ∧ wpAny (model prog w) A (pyIter v) (ItGv prog w A (fun _ => True) P s₁ xs) NoE s₁) NoE s
  | .e e0, env, pl, sm, σ, P, A, s, xs, hw, H, e => by
    simp only [evit_e0, evit_e1, evit_e2] at e
    split at e
    · cases e
    · rename_i x hx
      exact wpAny_mono (ev_ok B e0 hw H hx) (fun v s₁ g₁ => ⟨g₁.1, wpAny_mono (iter_data H.room.handled g₁.2 e) (fun _ _ g => g.wide fun _ _ => trivial) fun _ _ f => f⟩) fun _ _ f => f
  | .range px es p, env, pl, sm, σ, P, A, s, xs, hw, H, e => by
    simp only [wfit_e0, wfit_e1, wfit_e2, Bool.and_eq_true, beq_iff_eq, decide_eq_true_eq] at hw
    simp only [evit_e0, evit_e1, evit_e2] at e
    split at e
    · cases e
    · rename_i ds hds
      refine wpAny_mono (range_call B H hw.1.1 hw.2 (evs_ok B es hw.1.2 H hds p) e) (fun v s₁ g₁ => ?_) fun _ _ f => f
      obtain ⟨k₁, r, a, b, c, t, u, t', rfl, h1, h2⟩ := g₁
      exact ⟨k₁, wpAny_mono (iter_range H.room.handled h1 h2) (fun _ _ g => g.wide fun _ _ => trivial) fun _ _ f => f⟩
  | .v e0, env, pl, sm, σ, P, A, s, xs, hw, H, e => by
    simp only [evit_e0, evit_e1, evit_e2] at e
    split at e
    · cases e
    · rename_i x hx
      refine wpAny_mono (view_of B H hw hx (ev_ok B e0 hw H)) (fun v s₁ g₁ => ⟨g₁.1, ?_⟩) fun _ _ f => f
      cases x with
      | list ys =>
        obtain ⟨a, vs, rfl, h1, h2⟩ := g₁.2
        simp only [itemsOf] at e
        split at e
        · cases e; exact iter_list H.room.handled trivial h1 h2
        · cases e
      | _ => exact wpAny_mono (iter_data H.room.handled (P := P) g₁.2 e) (fun _ _ g => g.wide fun _ _ => trivial) fun _ _ f => f
theorem evB_ok (B : Base prog w K hB T Γ hG k) : ∀ (es : IEs) (op : BoolOp) {env : Env} {pl : Nat → Place} {sm : List (Str × Nat)} {σ : Loc} {P : Addr → Prop} {A : Around} {s : Shared} {d : PyData}, wfs T env.scope.names sm es = true → Here env pl sm σ hB P A k s → evB Γ hG op es σ = some d →
    ∀ p, wpAny (model prog w) A (boolOp p op (evalEach es.ast env)) (Gv P s d) NoE s
  | .nil, op, env, pl, sm, σ, P, A, s, d, hw, H, e, p => by cases op <;> cases e
  | .cons e0 es, op, env, pl, sm, σ, P, A, s, d, hw, H, e, p => by
    simp only [wfs_e0, wfs_e1, Bool.and_eq_true] at hw
    simp only [evB_e0, evB_e1] at e
    split at e
    · cases e
    · rename_i x hx
      cases es with
      | nil =>
        cases e
        exact ev_ok B e0 hw.1 H hx
      | cons e1 er =>
        simp only at e
        split at e
        · cases e
        · rename_i b hb
          refine wpAny_bind (wpAny_mono (ev_ok B e0 hw.1 H hx) (fun v s₁ g₁ => wpAny_bind (wpAny_standAt (wpAny_bind (wpAny_holding (wpAny_mono (truth_ok g₁.2.toRW hb) (fun c s₂ g₂ => ?_) fun _ _ f => f))))) fun _ _ f => f)
          obtain ⟨rfl, k₂⟩ := g₂
          have H₂ := (H.kp g₁.1).kp k₂
          cases op <;> cases c
          · cases e; exact wpAny_pure ⟨g₁.1.trans k₂, g₁.2.keeps k₂.ext⟩
          · exact wpAny_mono (evB_ok B (.cons e1 er) .And hw.2 H₂ e p) (fun _ _ g => Gv.after (g₁.1.trans k₂) g) fun _ _ f => f
          · exact wpAny_mono (evB_ok B (.cons e1 er) .Or hw.2 H₂ e p) (fun _ _ g => Gv.after (g₁.1.trans k₂) g) fun _ _ f => f
          · cases e; exact wpAny_pure ⟨g₁.1.trans k₂, g₁.2.keeps k₂.ext⟩
theorem tst_ok (B : Base prog w K hB T Γ hG k) : ∀ (e : IE) {env : Env} {pl : Nat → Place} {sm : List (Str × Nat)} {σ : Loc} {P : Addr → Prop} {A : Around} {s : Shared} {b : Bool}, wf T env.scope.names sm e = true → Here env pl sm σ hB P A k s → (view e σ (ev Γ hG e σ)).bind truth = some b →
    (∀ d, ev Γ hG e σ = some d → wpAny (model prog w) A (eval e.ast env) (Gv P s d) NoE s) → wpAny (model prog w) A (isTrue e.ast env (eval e.ast env)) (GvT s b) NoE s
  | .int a1 a2 a3, env, pl, sm, σ, P, A, s, b, hw, H, ht, hev => tst_plain B hw H ht hev rfl
  | .str a1 a2 a3, env, pl, sm, σ, P, A, s, b, hw, H, ht, hev => tst_plain B hw H ht hev rfl
  | .bool a1 a2 a3, env, pl, sm, σ, P, A, s, b, hw, H, ht, hev => tst_plain B hw H ht hev rfl
  | .none a1 a2, env, pl, sm, σ, P, A, s, b, hw, H, ht, hev => tst_plain B hw H ht hev rfl
  | .var a1 a2 a3, env, pl, sm, σ, P, A, s, b, hw, H, ht, hev => tst_plain B hw H ht hev rfl
  | .glob a1 a2 a3, env, pl, sm, σ, P, A, s, b, hw, H, ht, hev => tst_plain B hw H ht hev rfl
  | .bin a1 a2 a3 a4, env, pl, sm, σ, P, A, s, b, hw, H, ht, hev => tst_plain B hw H ht hev rfl
  | .neg a1 a2, env, pl, sm, σ, P, A, s, b, hw, H, ht, hev => tst_plain B hw H ht hev rfl
  | .callF a1 a2 a3 a4 a5, env, pl, sm, σ, P, A, s, b, hw, H, ht, hev => tst_plain B hw H ht hev rfl
  | .callB a1 a2 a3 a4, env, pl, sm, σ, P, A, s, b, hw, H, ht, hev => tst_plain B hw H ht hev rfl
  | .listOf a1 a2 a3, env, pl, sm, σ, P, A, s, b, hw, H, ht, hev => tst_plain B hw H ht hev rfl
  | .meth a1 a2 a3 a4 a5, env, pl, sm, σ, P, A, s, b, hw, H, ht, hev => tst_plain B hw H ht hev rfl
  | .sub a1 a2 a3, env, pl, sm, σ, P, A, s, b, hw, H, ht, hev => tst_plain B hw H ht hev rfl
  | .slc a1 a2 a3 a4 a5 a6, env, pl, sm, σ, P, A, s, b, hw, H, ht, hev => tst_plain B hw H ht hev rfl
  | .lst a1 a2, env, pl, sm, σ, P, A, s, b, hw, H, ht, hev => tst_plain B hw H ht hev rfl
  | .tup a1 a2 a3, env, pl, sm, σ, P, A, s, b, hw, H, ht, hev => tst_plain B hw H ht hev rfl
  | .comp a1 a2 a3 a4 a5 a6 a7, env, pl, sm, σ, P, A, s, b, hw, H, ht, hev => tst_plain B hw H ht hev rfl
  | .hlist a1 a2 a3 a4 a5, env, pl, sm, σ, P, A, s, b, hw, H, ht, hev => tst_plain B hw H ht hev rfl
  | .conv a1 a2 a3 a4 a5 a6 a7 a8 a9 a10, env, pl, sm, σ, P, A, s, b, hw, H, ht, hev => tst_plain B hw H ht hev rfl
  | .comp2 a1 a2 a3 a4 a5 a6 a7 a8, env, pl, sm, σ, P, A, s, b, hw, H, ht, hev => tst_plain B hw H ht hev rfl
  | .hmeth a1 a2 a3 a4 a5 a6 a7, env, pl, sm, σ, P, A, s, b, hw, H, ht, hev => tst_plain B hw H ht hev rfl
  | .not a p, env, pl, sm, σ, P, A, s, b, hw, H, ht, hev => by
    have hw' : wf T env.scope.names sm a = true := hw
    have ht' : (ev Γ hG (.not a p) σ).bind truth = some b := ht
    simp only [ev_e0, ev_e1, ev_e2, ev_e3, ev_e4, ev_e5, ev_e6, ev_e7, ev_e8, ev_e9, ev_e10, ev_e11, ev_e12, ev_e13, ev_e14, ev_e15, ev_e16, ev_e17, ev_e18, ev_e19, ev_e20, ev_e21, ev_e22, ev_e24] at ht'
    cases hv : view a σ (ev Γ hG a σ) with
    | none => rw [hv] at ht'; cases ht'
    | some x =>
      rw [hv] at ht'
      cases hx : truth x with
      | none => simp only at ht'; rw [hx] at ht'; cases ht'
      | some c =>
        simp only at ht'
        rw [hx] at ht'
        have ht2 : some (!c) = some b := ht'
        cases ht2
        refine wpAny_isTrue_Not (wpAny_mono (tst_ok B a hw' H (b := c) (by rw [hv]; exact hx) (fun _ => ev_ok B a hw' H)) (fun c' s₁ g₁ => ?_) fun _ _ f => f)
        obtain ⟨rfl, k₁⟩ := g₁
        exact ⟨rfl, k₁⟩
  | .cmp op a a' p, env, pl, sm, σ, P, A, s, b, hw, H, ht, hev => by
    have hw' : wf T env.scope.names sm a = true ∧ wf T env.scope.names sm a' = true := by simpa only [wf_e1, wf_e2, wf_e3, wf_e4, wf_e5, wf_e6, wf_e7, wf_e8, wf_e9, wf_e10, wf_e11, wf_e12, wf_e13, wf_e14, wf_e15, wf_e16, wf_e17, wf_e18, wf_e19, wf_e20, wf_e21, Bool.and_eq_true] using hw
    have ht' : (ev Γ hG (.cmp op a a' p) σ).bind truth = some b := ht
    simp only [ev_e0, ev_e1, ev_e2, ev_e3, ev_e4, ev_e5, ev_e6, ev_e7, ev_e8, ev_e9, ev_e10, ev_e11, ev_e12, ev_e13, ev_e14, ev_e15, ev_e16, ev_e17, ev_e18, ev_e19, ev_e20, ev_e21, ev_e22, ev_e24] at ht'
    cases hx : view a σ (ev Γ hG a σ) with
    | none => rw [hx] at ht'; cases ht'
    | some x =>
      rw [hx] at ht'
      simp only at ht'
      cases hy : view a' σ (ev Γ hG a' σ) with
      | none => rw [hy] at ht'; cases ht'
      | some y =>
        rw [hy] at ht'
        simp only at ht'
        cases hc : cmpop op x y with
        | none => rw [hc] at ht'; cases ht'
        | some c =>
          rw [hc] at ht'
          simp only [Option.map_some, Option.bind_some, truth] at ht'
          cases ht'
          refine wpAny_isTrue_Compare1 (wpAny_mono (view_of B H hw'.1 hx (ev_ok B a hw'.1 H)) (fun va s₁ g₁ => ?_) fun _ _ f => f) (marks_ast op a')
          have H₁ := H.kp g₁.1
          refine wpAny_mono (view_of B H₁ hw'.2 hy (ev_ok B a' hw'.2 H₁)) (fun vb s₂ g₂ => ?_) fun _ _ f => f
          refine wpAny_mono (cmpop_ok H.room (g₁.2.keeps g₂.1.ext) g₂.2 hc) (fun vc s₃ g₃ => ?_) fun _ _ f => f
          rw [g₃.2.inv_bool]
          exact wpAny_truthy_bool ⟨rfl, (g₁.1.trans g₂.1).trans g₃.1⟩
  | .boolop op es p, env, pl, sm, σ, P, A, s, b, hw, H, ht, hev => wpAny_isTrue_BoolOp (evBT_ok B es op hw H ht)
  | .ifexp t x y p, env, pl, sm, σ, P, A, s, b, hw, H, ht, hev => by
    have hw' : (wf T env.scope.names sm t = true ∧ wf T env.scope.names sm x = true) ∧ wf T env.scope.names sm y = true := by simpa only [wf_e1, wf_e2, wf_e3, wf_e4, wf_e5, wf_e6, wf_e7, wf_e8, wf_e9, wf_e10, wf_e11, wf_e12, wf_e13, wf_e14, wf_e15, wf_e16, wf_e17, wf_e18, wf_e19, wf_e20, wf_e21, Bool.and_eq_true] using hw
    have ht' : (ev Γ hG (.ifexp t x y p) σ).bind truth = some b := ht
    simp only [ev_e0, ev_e1, ev_e2, ev_e3, ev_e4, ev_e5, ev_e6, ev_e7, ev_e8, ev_e9, ev_e10, ev_e11, ev_e12, ev_e13, ev_e14, ev_e15, ev_e16, ev_e17, ev_e18, ev_e19, ev_e20, ev_e21, ev_e22, ev_e24] at ht'
    cases hv : view t σ (ev Γ hG t σ) with
    | none => rw [hv] at ht'; cases ht'
    | some z =>
      rw [hv] at ht'
      simp only at ht'
      cases hz : truth z with
      | none => rw [hz] at ht'; cases ht'
      | some c =>
        rw [hz] at ht'
        refine wpAny_of_eq' (arm_isTrue_IfExp _ _ _ _ _ _) (wpAny_bind (wpAny_mono (tst_ok B t hw'.1.1 H (b := c) (by rw [hv]; exact hz) (fun _ => ev_ok B t hw'.1.1 H)) (fun c' s₁ g₁ => ?_) fun _ _ f => f))
        obtain ⟨rfl, k₁⟩ := g₁
        have H₁ := H.kp k₁
        cases c' with
        | true =>
          simp only at ht'
          cases hq : ev Γ hG x σ with
          | none => rw [hq] at ht'; cases ht'
          | some q =>
            exact wpAny_mono (tst_ok B x hw'.1.2 H₁ (b := b) (by rw [view_ev hq]; rw [hq] at ht'; exact ht') (fun _ => ev_ok B x hw'.1.2 H₁)) (fun _ _ g => ⟨g.1, k₁.trans g.2⟩) fun _ _ f => f
        | false =>
          simp only at ht'
          cases hq : ev Γ hG y σ with
          | none => rw [hq] at ht'; cases ht'
          | some q =>
            exact wpAny_mono (tst_ok B y hw'.2 H₁ (b := b) (by rw [view_ev hq]; rw [hq] at ht'; exact ht') (fun _ => ev_ok B y hw'.2 H₁)) (fun _ _ g => ⟨g.1, k₁.trans g.2⟩) fun _ _ f => f
theorem evBT_ok (B : Base prog w K hB T Γ hG k) : ∀ (es : IEs) (op : BoolOp) {env : Env} {pl : Nat → Place} {sm : List (Str × Nat)} {σ : Loc} {P : Addr → Prop} {A : Around} {s : Shared} {b : Bool}, wfs T env.scope.names sm es = true → Here env pl sm σ hB P A k s → (evB Γ hG op es σ).bind truth = some b →
    wpAny (model prog w) A (allTrue op es.ast env) (GvT s b) NoE s
  | .nil, op, env, pl, sm, σ, P, A, s, b, hw, H, ht => by cases op <;> cases ht
  | .cons e0 es, op, env, pl, sm, σ, P, A, s, b, hw, H, ht => by
    simp only [wfs_e0, wfs_e1, Bool.and_eq_true] at hw
    simp only [evB_e0, evB_e1] at ht
    cases hx : ev Γ hG e0 σ with
    | none => rw [hx] at ht; cases ht
    | some x =>
      rw [hx] at ht
      simp only at ht
      have hb : ∃ c, truth x = some c := by
        cases es with
        | nil => exact ⟨b, ht⟩
        | cons e1 er =>
          simp only at ht
          cases hq : truth x with
          | none => rw [hq] at ht; cases ht
          | some c => exact ⟨c, rfl⟩
      obtain ⟨c, hc⟩ := hb
      have step := tst_ok B e0 hw.1 H (b := c) (by rw [view_ev hx]; exact hc) (fun _ => ev_ok B e0 hw.1 H)
      cases es with
      | nil =>
        have e1 : c = b := Option.some.inj (hc.symm.trans ht)
        subst e1
        cases op with
        | And =>
          refine wpAny_allTrue_And_cons (wpAny_mono step (fun c' s₁ g₁ => ?_) fun _ _ f => f)
          obtain ⟨rfl, k₁⟩ := g₁
          cases c' with
          | true => exact wpAny_allTrue_And_nil ⟨rfl, k₁⟩
          | false => exact ⟨rfl, k₁⟩
        | Or =>
          refine wpAny_allTrue_Or_cons (wpAny_mono step (fun c' s₁ g₁ => ?_) fun _ _ f => f)
          obtain ⟨rfl, k₁⟩ := g₁
          cases c' with
          | true => exact ⟨rfl, k₁⟩
          | false => exact wpAny_allTrue_Or_nil ⟨rfl, k₁⟩
      | cons e1 er =>
        simp only [hc] at ht
        cases op with
        | And =>
          refine wpAny_allTrue_And_cons (wpAny_mono step (fun c' s₁ g₁ => ?_) fun _ _ f => f)
          obtain ⟨rfl, k₁⟩ := g₁
          cases c' with
          | true => exact wpAny_mono (evBT_ok B (.cons e1 er) .And hw.2 (H.kp k₁) ht) (fun _ _ g => ⟨g.1, k₁.trans g.2⟩) fun _ _ f => f
          | false => simp only [Option.bind_some, hc] at ht; cases ht; exact ⟨rfl, k₁⟩
        | Or =>
          refine wpAny_allTrue_Or_cons (wpAny_mono step (fun c' s₁ g₁ => ?_) fun _ _ f => f)
          obtain ⟨rfl, k₁⟩ := g₁
          cases c' with
          | true => simp only [Option.bind_some, hc] at ht; cases ht; exact ⟨rfl, k₁⟩
          | false => exact wpAny_mono (evBT_ok B (.cons e1 er) .Or hw.2 (H.kp k₁) ht) (fun _ _ g => ⟨g.1, k₁.trans g.2⟩) fun _ _ f => f
theorem evIfs_ok (B : Base prog w K hB T Γ hG k) : ∀ (es : IEs) {env : Env} {pl : Nat → Place} {sm : List (Str × Nat)} {σ : Loc} {P : Addr → Prop} {A : Around} {s : Shared} {b : Bool}, wfs T env.scope.names sm es = true → Here env pl sm σ hB P A k s → evIfs Γ hG es σ = some b →
    wpAny (model prog w) A (forIn es.ast true fun c r => if r = true then do let ok ← isTrue c env (eval c env); pure (ForInStep.yield ok) else pure (ForInStep.yield r)) (GvT s b) NoE s
  | .nil, env, pl, sm, σ, P, A, s, b, hw, H, e => by cases e; exact wpAny_pure ⟨rfl, Kp.refl _⟩
  | .cons e0 es, env, pl, sm, σ, P, A, s, b, hw, H, e => by
    simp only [wfs_e0, wfs_e1, Bool.and_eq_true] at hw
    simp only [evIfs_e0, evIfs_e1] at e
    split at e
    · cases e
    · rename_i x hx
      show wpAny _ _ (forIn (e0.ast :: es.ast) true _) _ _ _
      rw [List.forIn_cons]
      simp only [if_true, bind_assoc, pure_bind]
      split at e
      · cases e
      · rename_i hb
        refine wpAny_bind (wpAny_mono (tst_ok B e0 hw.1 H (b := true) (by rw [hx]; exact hb) (fun _ => ev_ok B e0 hw.1 H)) (fun c s₁ g₁ => ?_) fun _ _ f => f)
        obtain ⟨rfl, k₁⟩ := g₁
        exact wpAny_mono (evIfs_ok B es hw.2 (H.kp k₁) e) (fun _ _ g => ⟨g.1, k₁.trans g.2⟩) fun _ _ f => f
      · rename_i hb
        cases e
        refine wpAny_bind (wpAny_mono (tst_ok B e0 hw.1 H (b := false) (by rw [hx]; exact hb) (fun _ => ev_ok B e0 hw.1 H)) (fun c s₁ g₁ => ?_) fun _ _ f => f)
        obtain ⟨rfl, k₁⟩ := g₁
        exact tests_false es.ast ⟨rfl, k₁⟩
end
theorem comp_use {env : Env} {pl : Nat → Place} {sm : List (Str × Nat)} {σ : Loc} {P : Addr → Prop} {A : Around} {s : Shared} {d : PyData} {elt : IE} {t : Tgt} {it : IT} {ifs : IEs} {sc : Scope} {sm' : List (Str × Nat)} {p : Pos} {use : Option (Value → Sem Unit)} {Q : Value → Shared → Prop} (B : Base prog w K hB T Γ hG k)
    (hw : wf T env.scope.names sm (.comp elt t it ifs sc sm' p) = true) (H : Here env pl sm σ hB P A k s) (e : ev Γ hG (.comp elt t it ifs sc sm' p) σ = some d)
    (h : ∀ s₁ ds D C s', d = .list ds → Kp s s₁ → BlkEnd P s₁ ds D C s' → compPost (model prog w) A NoE use Q (.ref D) C (.ok .next) s') :
    wpAny (model prog w) A (comprehension (IE.comp elt t it ifs sc sm' p).ast sc env it.ast.pos (newList []) false (eval it.ast env) use) Q NoE s := by
  simp only [wf_e1, wf_e2, wf_e3, wf_e4, wf_e5, wf_e6, wf_e7, wf_e8, wf_e9, wf_e10, wf_e11, wf_e12, wf_e13, wf_e14, wf_e15, wf_e16, wf_e17, wf_e18, wf_e19, wf_e20, wf_e21, Bool.and_eq_true] at hw
  obtain ⟨⟨⟨h1, h2⟩, h3⟩, h4⟩ := hw
  have O := compOk_of h2
  simp only [ev_e0, ev_e1, ev_e2, ev_e3, ev_e4, ev_e5, ev_e6, ev_e7, ev_e8, ev_e9, ev_e10, ev_e11, ev_e12, ev_e13, ev_e14, ev_e15, ev_e16, ev_e17, ev_e18, ev_e19, ev_e20, ev_e21, ev_e22, ev_e24] at e
  split at e
  · cases e
  · rename_i xs hxs
    have e' : (gather (compF Γ hG elt t ifs (clr t.names σ)) xs).map PyData.list = some d := e
    cases hg : gather (compF Γ hG elt t ifs (clr t.names σ)) xs with
    | none => rw [hg] at e'; cases e'
    | some ds =>
      rw [hg] at e'; cases e'
      refine wpAny_comprehension_free (use := use) (e := .ListComp elt.ast [⟨t.ast, it.ast, ifs.ast, 0⟩] sc p) rfl (fun _ => fold_ast it _) (closure_eq (O.cells H)) O.kind O.loc (wpAny_mono (evitZ_ok B it h1 H hxs) (fun v s₁ g₁ => ?_) fun _ _ f => f)
      have H₁ := H.kp g₁.1
      refine wpAny_mono g₁.2 (fun iv s₂ g₂ => ?_) fun _ _ f => f
      exact comp1_block (RR := fun acc C => compPost (model prog w) A NoE use Q acc C) O H₁ g₂ (evit_len hxs)
        (fun env' pl' σ' P' s' y q Hq eq => ev_ok B elt (by rw [q]; exact h3) Hq eq) (fun env' pl' σ' P' s' b q Hq eq => evIfs_ok B ifs (by rw [q]; exact h4) Hq eq) hg
        fun D C s' b => h s₁ ds D C s' rfl g₁.1 b
theorem comp2_use {env : Env} {pl : Nat → Place} {sm : List (Str × Nat)} {σ : Loc} {P : Addr → Prop} {A : Around} {s : Shared} {d : PyData} {elt : IE} {t t2 : Tgt} {it it2 : IT} {sc : Scope} {sm' : List (Str × Nat)} {p : Pos} {use : Option (Value → Sem Unit)} {Q : Value → Shared → Prop} (B : Base prog w K hB T Γ hG k)
    (hw : wf T env.scope.names sm (.comp2 elt t it t2 it2 sc sm' p) = true) (H : Here env pl sm σ hB P A k s) (e : ev Γ hG (.comp2 elt t it t2 it2 sc sm' p) σ = some d)
    (h : ∀ s₁ ds D C s', d = .list ds → Kp s s₁ → BlkEnd P s₁ ds D C s' → compPost (model prog w) A NoE use Q (.ref D) C (.ok .next) s') :
    wpAny (model prog w) A (comprehension (IE.comp2 elt t it t2 it2 sc sm' p).ast sc env it.ast.pos (newList []) false (eval it.ast env) use) Q NoE s := by
  simp only [wf_e1, wf_e2, wf_e3, wf_e4, wf_e5, wf_e6, wf_e7, wf_e8, wf_e9, wf_e10, wf_e11, wf_e12, wf_e13, wf_e14, wf_e15, wf_e16, wf_e17, wf_e18, wf_e19, wf_e20, wf_e21, Bool.and_eq_true, Bool.not_eq_true'] at hw
  obtain ⟨⟨⟨⟨h1, h2⟩, h3⟩, h4⟩, h5⟩ := hw
  have O := compOk_of h2
  simp only [ev_e0, ev_e1, ev_e2, ev_e3, ev_e4, ev_e5, ev_e6, ev_e7, ev_e8, ev_e9, ev_e10, ev_e11, ev_e12, ev_e13, ev_e14, ev_e15, ev_e16, ev_e17, ev_e18, ev_e19, ev_e20, ev_e21, ev_e22, ev_e24] at e
  split at e
  · cases e
  · rename_i xs hxs
    replace e : (gather (compG' Γ hG elt t it2 t2 (clr (t.names ++ t2.names) σ)) xs).bind (fun ds => if ds.length ≤ bigN then some (PyData.list ds) else none) = some d := e
    rw [compG_eq] at e
    cases hg : gather (compG Γ hG elt t it2 t2 (clr (t.names ++ t2.names) σ)) xs with
    | none => rw [hg] at e; cases e
    | some ds =>
      rw [hg] at e
      simp only [Option.bind_some] at e
      split at e
      · rename_i hl
        cases e
        refine wpAny_comprehension_free (use := use) (e := .ListComp elt.ast [⟨t.ast, it.ast, [], 0⟩, ⟨t2.ast, it2.ast, [], 0⟩] sc p) rfl (fun _ => fold_ast it _) (closure_eq (O.cells H)) O.kind O.loc (wpAny_mono (evitZ_ok B it h1 H hxs) (fun v s₁ g₁ => ?_) fun _ _ f => f)
        have H₁ := H.kp g₁.1
        refine wpAny_mono g₁.2 (fun iv s₂ g₂ => ?_) fun _ _ f => f
        exact comp2_block (RR := fun acc C => compPost (model prog w) A NoE use Q acc C) O H₁ g₂ hl
          (fun env' pl' σ' P' s' y q Hq eq => ev_ok B elt (by rw [q]; exact h4) Hq eq) (fun env' pl' σ' P' s' xs q Hq eq => evit_ok B it2 h5 (by rw [q]; exact h3) Hq eq) (ifs_nil_ok) (fun _ _ => fold_ast it2 _) hg
          fun D C s' b => h s₁ ds D C s' rfl g₁.1 b
      · cases e
end
end Mine
end
section
open PySem PySem.W PySem.Calls PyProof.Rows
set_option Elab.async false
set_option maxRecDepth 100000
namespace Mine
mutual
inductive IS where
  | asg (x : Str) (i : Nat) (px : Pos) (e : IE) (p : Pos)
  | asgO (x : Str) (i : Nat) (px : Pos) (e : IE) (p : Pos)
  | asg2 (x : Str) (i : Nat) (px : Pos) (y : Str) (j : Nat) (py : Pos) (e : IE) (p : Pos)
  | aug (x : Str) (i : Nat) (px : Pos) (op : Operator) (e : IE) (p : Pos)
  | swp (x : Str) (i : Nat) (px : Pos) (y : Str) (j : Nat) (py : Pos) (kt : Nat) (pt : Pos) (a b : IE) (kv : Nat) (pv : Pos) (p : Pos)
  | app (x : Str) (i : Nat) (px ap : Pos) (e : IE) (pc p : Pos)
  | seti (x : Str) (i : Nat) (px : Pos) (ix : IE) (ps : Pos) (e : IE) (p : Pos)
  | deli (x : Str) (i : Nat) (px : Pos) (ix : IE) (ps p : Pos)
  | ite (t : IE) (b o : ISs) (p : Pos)
  | whl (n : Nat) (t : IE) (b : ISs) (p : Pos)
  | for (t : Tgt) (it : IT) (b : ISs) (p : Pos)
  | hnew (x : Str) (i : Nat) (px pf pc p : Pos)
  | hcall (m x : Str) (i : Nat) (px ap : Pos) (es : IEs) (pc p : Pos)
  | happ (x : Str) (i : Nat) (px pa ap : Pos) (e : IE) (pc p : Pos)
  | forE (x : Str) (i : Nat) (px ap pc : Pos) (tgt : Expr) (body : List Stmt) (p : Pos)
  | ret (e : IE) (p : Pos)
  | asrt (e : IE) (p : Pos)
  | frz (i : Nat) (s : IS)
inductive ISs where
  | nil
  | cons (s : IS) (r : ISs)
end
mutual
noncomputable def IS.ast : IS → Stmt
  | .asg x _ px e p => .Assign [.Name x px] e.ast p
  | .asgO x _ px e p => .Assign [.Name x px] e.ast p
  | .asg2 x _ px y _ py e p => .Assign [.Name x px, .Name y py] e.ast p
  | .aug x _ px op e p => .AugAssign (.Name x px) op e.ast p
  | .swp x _ px y _ py kt pt a b kv pv p => .Assign [.Tuple [.Name x px, .Name y py] kt pt] (.Tuple [a.ast, b.ast] kv pv) p
  | .app x _ px ap e pc p => .Expr (.Call (.Attribute (.Name x px) "append" ap) [e.ast] [] pc) p
  | .seti x _ px ix ps e p => .Assign [.Subscript (.Name x px) ix.ast ps] e.ast p
  | .deli x _ px ix ps p => .Delete [.Subscript (.Name x px) ix.ast ps] p
  | .ite t b o p => .If t.ast b.ast o.ast p
  | .whl _ t b p => .While t.ast b.ast [] p
  | .for t it b p => .For t.ast it.ast b.ast [] p
  | .hnew x _ px pf pc p => .Assign [.Name x px] (.Call (.Name "Headers" pf) [] [] pc) p
  | .hcall m x _ px ap es pc p => .Expr (.Call (.Attribute (.Name x px) m ap) es.ast [] pc) p
  | .happ x _ px pa ap e pc p => .Expr (.Call (.Attribute (.Attribute (.Name x px) "_headers" pa) "append" ap) [e.ast] [] pc) p
  | .forE x _ px ap pc tgt body p => .For tgt (.Call (.Attribute (.Name x px) "items" ap) [] [] pc) body [] p
  | .ret e p => .Return (some e.ast) p
  | .asrt e p => .Assert e.ast none p
  | .frz _ s => s.ast
noncomputable def ISs.ast : ISs → List Stmt
  | .nil => []
  | .cons s r => s.ast :: r.ast
end
inductive Fl where
  | next
  | ret (d : PyData)
noncomputable def whileL (t : Loc → Option Bool) (b : Loc → Option (Fl × Loc)) : Nat → Loc → Option (Fl × Loc)
  | 0, _ => none
  | n + 1, σ => match t σ with
    | none => none
    | some false => some (.next, σ)
    | some true => match b σ with
      | none => none
      | some (.next, σ') => whileL t b n σ'
      | some (.ret d, σ') => some (.ret d, σ')
noncomputable def forL (f : PyData → Loc → Option (Fl × Loc)) : List PyData → Loc → Option (Fl × Loc)
  | [], σ => some (.next, σ)
  | v :: r, σ => match f v σ with
    | none => none
    | some (.next, σ') => forL f r σ'
    | some (.ret d, σ') => some (.ret d, σ')
noncomputable def inplace : Operator → PyData → PyData → Option PyData
  | .Add, .int a, .int b => some (.int (a + b))
  | .Sub, .int a, .int b => some (.int (a - b))
  | _, _, _ => none
noncomputable def IE.news : IE → Bool
  | .lst .. => true
  | .listOf .. => true
  | .meth .split .. => true
  | _ => false
section
variable (Γ : Nat → List PyData → Option PyData)
variable (hG : Hs)
mutual
noncomputable def ex : IS → Loc → Option (Fl × Loc)
  | .asg _ i _ e _, σ => match ev Γ hG e σ with
    | none => none
    | some d => some (.next, σ.put i (.d d))
  | .asgO _ i _ e _, σ => match e.news, ev Γ hG e σ with
    | true, some (.list xs) => some (.next, σ.put i (.ml xs))
    | _, _ => none
  | .asg2 _ i _ _ j _ e _, σ => match ev Γ hG e σ with
    | none => none
    | some d => some (.next, (σ.put i (.d d)).put j (.d d))
  | .aug _ i _ op e _, σ => match σ.at i with
    | some (.d x) => match ev Γ hG e σ with
      | none => none
      | some y => match inplace op x y with
        | none => none
        | some d => some (.next, σ.put i (.d d))
    | _ => none
  | .swp _ i _ _ j _ _ _ a b _ _ _, σ => match ev Γ hG a σ with
    | none => none
    | some x => match ev Γ hG b σ with
      | none => none
      | some y => some (.next, (σ.put j (.d y)).put i (.d x))
  | .app _ i _ _ e _ _, σ => match σ.at i with
    | some (.ml xs) => match ev Γ hG e σ with
      | none => none
      | some d => if xs.length ≤ bigN then some (.next, σ.put i (.ml (xs ++ [d]))) else none
    | _ => none
  | .seti _ i _ ix _ e _, σ => match σ.at i with
    | some (.ml xs) => match ev Γ hG e σ with
      | none => none
      | some d => match ev Γ hG ix σ with
        | some (.int n) => if decide (0 ≤ n) && decide (n < xs.length) && decide (xs.length ≤ bigN) then some (.next, σ.put i (.ml (xs.set n.toNat d))) else none
        | _ => none
    | _ => none
  | .deli _ i _ ix _ _, σ => match σ.at i with
    | some (.ml xs) => match ev Γ hG ix σ with
      | some (.int n) => match seqIndex? n xs.length with
        | some k => if decide (xs.length ≤ bigN) && smallI n then some (.next, σ.put i (.ml (xs.eraseIdx k))) else none
        | none => none
      | _ => none
    | _ => none
  | .ite t b o _, σ => match (view t σ (ev Γ hG t σ)).bind truth with
    | none => none
    | some true => exs b σ
    | some false => exs o σ
  | .whl n t b _, σ => whileL (fun σ => (view t σ (ev Γ hG t σ)).bind truth) (fun σ => exs b σ) n σ
  | .for t it b _, σ => match evit Γ hG it σ with
    | none => none
    | some xs => forL (fun v σ => match t.bind v σ with
      | none => none
      | some σ' => exs b σ') xs σ
  | .hnew _ i _ _ _ _, σ => some (.next, σ.put i (.hd hG.cls none []))
  | .hcall m _ i _ _ es _ _, σ => match σ.at i with
    | some (.hd c ad kvs) => match evs Γ hG es σ with
      | none => none
      | some xs => if c == hG.cls then match hG.set m kvs xs with
          | none => none
          | some r => some (.next, σ.put i (.hd c ad r.1))
        else none
    | _ => none
  | .happ _ i _ _ _ e _ _, σ => match σ.at i with
    | some (.hd c ad kvs) => match ev Γ hG e σ with
      | none => none
      | some d => if c == hG.cls && decide (kvs.length ≤ bigN) then some (.next, σ.put i (.hd c ad (kvs ++ [d]))) else none
    | _ => none
  | .forE _ i _ _ _ _ _ _, σ => match σ.at i with
    | some .ed => some (.next, σ)
    | _ => none
  | .ret e _, σ => match ev Γ hG e σ with
    | none => none
    | some d => some (.ret d, σ)
  | .asrt e _, σ => match (view e σ (ev Γ hG e σ)).bind truth with
    | some true => some (.next, σ)
    | _ => none
  | .frz i s, σ => match σ.at i with
    | some (.ml xs) => ex s (σ.put i (.d (.list xs)))
    | _ => none
noncomputable def exs : ISs → Loc → Option (Fl × Loc)
  | .nil, σ => some (.next, σ)
  | .cons s r, σ => match ex s σ with
    | none => none
    | some (.next, σ') => exs r σ'
    | some (.ret d, σ') => some (.ret d, σ')
end
end
noncomputable def exchanged (names : List (Str × NameKind)) (x : Str) (px : Pos) : IE → Bool
  | .comp _ _ _ _ sc _ pe => names.lookup x == some .local && px.line == pe.line && !(sc.names.any fun y => y.1 == x && (y.2 == .local || y.2 == .cell))
  | .comp2 _ _ _ _ _ sc _ pe => names.lookup x == some .local && px.line == pe.line && !(sc.names.any fun y => y.1 == x && (y.2 == .local || y.2 == .cell))
  | _ => false
section
variable (T : Tab)
mutual
noncomputable def wfS (names : List (Str × NameKind)) (sm : List (Str × Nat)) : IS → Bool
  | .asg x i _ e _ => wf T names sm e && sm.lookup x == some i
  | .asgO x i _ e _ => wf T names sm e && sm.lookup x == some i
  | .asg2 x i _ y j _ e _ => wf T names sm e && sm.lookup x == some i && sm.lookup y == some j
  | .aug x i _ _ e _ => wf T names sm e && sm.lookup x == some i && plainName x
  | .swp x i px y j py _ _ a b _ _ _ => wf T names sm a && wf T names sm b && sm.lookup x == some i && sm.lookup y == some j && names.lookup x == some .local && names.lookup y == some .local && px.line == py.line && x != y &&
      !(foldedForSure 8 a.ast && foldedForSure 8 b.ast) && !(constantsAlone 8 a.ast && constantsAlone 8 b.ast)
  | .app x i _ ap e pc _ => wf T names sm e && sm.lookup x == some i && plainName x && ap.endLine == pc.line
  | .seti x i _ ix _ e _ => wf T names sm e && wf T names sm ix && sm.lookup x == some i && plainName x
  | .deli x i _ ix _ _ => wf T names sm ix && sm.lookup x == some i && plainName x
  | .ite t b o _ => wf T names sm t && wfSs names sm b && wfSs names sm o
  | .whl _ t b _ => wf T names sm t && wfSs names sm b
  | .for t it b _ => wfit T names sm it && wfSs names sm b && t.names.all (fun x => sm.lookup x.1 == some x.2) && !it.isV
  | .hnew x i _ pf _ _ => sm.lookup x == some i && names.lookup ("Headers" : Str) == some .globalImplicit
  | .hcall _ x i _ ap es pc _ => wfs T names sm es && sm.lookup x == some i && plainName x && ap.endLine == pc.line && decide (es.len < 20)
  | .happ x i _ _ ap e pc _ => wf T names sm e && sm.lookup x == some i && plainName x && ap.endLine == pc.line
  | .forE x i _ ap pc _ _ _ => sm.lookup x == some i && plainName x && ap.endLine == pc.line
  | .ret e _ => wf T names sm e
  | .asrt e _ => wf T names sm e
  | .frz i s => wfS names sm s && (sm.map (·.2)).contains i
noncomputable def wfSs (names : List (Str × NameKind)) (sm : List (Str × Nat)) : ISs → Bool
  | .nil => true
  | .cons s r => wfS names sm s && wfSs names sm r
end
end
-- equations
section
variable {Γ : Nat → List PyData → Option PyData} {hG : Hs}
theorem ex_e0 {x1_ i x2_ e x3_ σ} : ex Γ hG (.asg x1_ i x2_ e x3_) σ = (match ev Γ hG e σ with
    | none => none
    | some d => some (.next, σ.put i (.d d))) := rfl
theorem ex_e1 {x1_ i x2_ e x3_ σ} : ex Γ hG (.asgO x1_ i x2_ e x3_) σ = (match e.news, ev Γ hG e σ with
    | true, some (.list xs) => some (.next, σ.put i (.ml xs))
    | _, _ => none) := rfl
theorem ex_e2 {x1_ i x2_ x3_ j x4_ e x5_ σ} : ex Γ hG (.asg2 x1_ i x2_ x3_ j x4_ e x5_) σ = (match ev Γ hG e σ with
    | none => none
    | some d => some (.next, (σ.put i (.d d)).put j (.d d))) := rfl
theorem ex_e3 {x1_ i x2_ op e x3_ σ} : ex Γ hG (.aug x1_ i x2_ op e x3_) σ = (match σ.at i with
    | some (.d x) => match ev Γ hG e σ with
      | none => none
      | some y => match inplace op x y with
        | none => none
        | some d => some (.next, σ.put i (.d d))
    | _ => none) := rfl
theorem ex_e4 {x1_ i x2_ x3_ j x4_ x5_ x6_ a b x7_ x8_ x9_ σ} : ex Γ hG (.swp x1_ i x2_ x3_ j x4_ x5_ x6_ a b x7_ x8_ x9_) σ = (match ev Γ hG a σ with
    | none => none
    | some x => match ev Γ hG b σ with
      | none => none
      | some y => some (.next, (σ.put j (.d y)).put i (.d x))) := rfl
theorem ex_e5 {x1_ i x2_ x3_ e x4_ x5_ σ} : ex Γ hG (.app x1_ i x2_ x3_ e x4_ x5_) σ = (match σ.at i with
    | some (.ml xs) => match ev Γ hG e σ with
      | none => none
      | some d => if xs.length ≤ bigN then some (.next, σ.put i (.ml (xs ++ [d]))) else none
    | _ => none) := rfl
theorem ex_e6 {x1_ i x2_ ix x3_ e x4_ σ} : ex Γ hG (.seti x1_ i x2_ ix x3_ e x4_) σ = (match σ.at i with
    | some (.ml xs) => match ev Γ hG e σ with
      | none => none
      | some d => match ev Γ hG ix σ with
        | some (.int n) => if decide (0 ≤ n) && decide (n < xs.length) && decide (xs.length ≤ bigN) then some (.next, σ.put i (.ml (xs.set n.toNat d))) else none
        | _ => none
    | _ => none) := rfl
theorem ex_e7 {x1_ i x2_ ix x3_ x4_ σ} : ex Γ hG (.deli x1_ i x2_ ix x3_ x4_) σ = (match σ.at i with
    | some (.ml xs) => match ev Γ hG ix σ with
      | some (.int n) => match seqIndex? n xs.length with
        | some k => if decide (xs.length ≤ bigN) && smallI n then some (.next, σ.put i (.ml (xs.eraseIdx k))) else none
        | none => none
      | _ => none
    | _ => none) := rfl
theorem ex_e8 {t b o x1_ σ} : ex Γ hG (.ite t b o x1_) σ = (match (view t σ (ev Γ hG t σ)).bind truth with
    | none => none
    | some true => exs Γ hG b σ
    | some false => exs Γ hG o σ) := rfl
theorem ex_e9 {n t b x1_ σ} : ex Γ hG (.whl n t b x1_) σ = (whileL (fun σ => (view t σ (ev Γ hG t σ)).bind truth) (fun σ => exs Γ hG b σ) n σ) := rfl
theorem ex_e10 {t it b x1_ σ} : ex Γ hG (.for t it b x1_) σ = (match evit Γ hG it σ with
    | none => none
    | some xs => forL (fun v σ => match t.bind v σ with
      | none => none
      | some σ' => exs Γ hG b σ') xs σ) := rfl
theorem ex_e11 {x1_ i x2_ x3_ x4_ x5_ σ} : ex Γ hG (.hnew x1_ i x2_ x3_ x4_ x5_) σ = (some (.next, σ.put i (.hd hG.cls none []))) := rfl
theorem ex_e12 {m x1_ i x2_ x3_ es x4_ x5_ σ} : ex Γ hG (.hcall m x1_ i x2_ x3_ es x4_ x5_) σ = (match σ.at i with
    | some (.hd c ad kvs) => match evs Γ hG es σ with
      | none => none
      | some xs => if c == hG.cls then match hG.set m kvs xs with
          | none => none
          | some r => some (.next, σ.put i (.hd c ad r.1))
        else none
    | _ => none) := rfl
theorem ex_e13 {x1_ i x2_ x3_ x4_ e x5_ x6_ σ} : ex Γ hG (.happ x1_ i x2_ x3_ x4_ e x5_ x6_) σ = (match σ.at i with
    | some (.hd c ad kvs) => match ev Γ hG e σ with
      | none => none
      | some d => if c == hG.cls && decide (kvs.length ≤ bigN) then some (.next, σ.put i (.hd c ad (kvs ++ [d]))) else none
    | _ => none) := rfl
theorem ex_e14 {x1_ i x2_ x3_ x4_ x5_ x6_ x7_ σ} : ex Γ hG (.forE x1_ i x2_ x3_ x4_ x5_ x6_ x7_) σ = (match σ.at i with
    | some .ed => some (.next, σ)
    | _ => none) := rfl
theorem ex_e15 {e x1_ σ} : ex Γ hG (.ret e x1_) σ = (match ev Γ hG e σ with
    | none => none
    | some d => some (.ret d, σ)) := rfl
theorem ex_e16 {e x1_ σ} : ex Γ hG (.asrt e x1_) σ = (match (view e σ (ev Γ hG e σ)).bind truth with
    | some true => some (.next, σ)
    | _ => none) := rfl
theorem ex_e17 {i s σ} : ex Γ hG (.frz i s) σ = (match σ.at i with
    | some (.ml xs) => ex Γ hG s (σ.put i (.d (.list xs)))
    | _ => none) := rfl
theorem exs_e0 {σ} : exs Γ hG (.nil) σ = (some (.next, σ)) := rfl
theorem exs_e1 {s r σ} : exs Γ hG (.cons s r) σ = (match ex Γ hG s σ with
    | none => none
    | some (.next, σ') => exs Γ hG r σ'
    | some (.ret d, σ') => some (.ret d, σ')) := rfl
end
section
variable {T : Tab} {names : List (Str × NameKind)} {sm : List (Str × Nat)}
theorem wfS_e0 {x i x1_ e x2_} : wfS T names sm (.asg x i x1_ e x2_) = (wf T names sm e && sm.lookup x == some i) := rfl
theorem wfS_e1 {x i x1_ e x2_} : wfS T names sm (.asgO x i x1_ e x2_) = (wf T names sm e && sm.lookup x == some i) := rfl
theorem wfS_e2 {x i x1_ y j x2_ e x3_} : wfS T names sm (.asg2 x i x1_ y j x2_ e x3_) = (wf T names sm e && sm.lookup x == some i && sm.lookup y == some j) := rfl
theorem wfS_e3 {x i x1_ x2_ e x3_} : wfS T names sm (.aug x i x1_ x2_ e x3_) = (wf T names sm e && sm.lookup x == some i && plainName x) := rfl
theorem wfS_e4 {x i px y j py x1_ x2_ a b x3_ x4_ x5_} : wfS T names sm (.swp x i px y j py x1_ x2_ a b x3_ x4_ x5_) = (wf T names sm a && wf T names sm b && sm.lookup x == some i && sm.lookup y == some j && names.lookup x == some .local && names.lookup y == some .local && px.line == py.line && x != y &&
      !(foldedForSure 8 a.ast && foldedForSure 8 b.ast) && !(constantsAlone 8 a.ast && constantsAlone 8 b.ast)) := rfl
theorem wfS_e5 {x i x1_ ap e pc x2_} : wfS T names sm (.app x i x1_ ap e pc x2_) = (wf T names sm e && sm.lookup x == some i && plainName x && ap.endLine == pc.line) := rfl
theorem wfS_e6 {x i x1_ ix x2_ e x3_} : wfS T names sm (.seti x i x1_ ix x2_ e x3_) = (wf T names sm e && wf T names sm ix && sm.lookup x == some i && plainName x) := rfl
theorem wfS_e7 {x i x1_ ix x2_ x3_} : wfS T names sm (.deli x i x1_ ix x2_ x3_) = (wf T names sm ix && sm.lookup x == some i && plainName x) := rfl
theorem wfS_e8 {t b o x1_} : wfS T names sm (.ite t b o x1_) = (wf T names sm t && wfSs T names sm b && wfSs T names sm o) := rfl
theorem wfS_e9 {x1_ t b x2_} : wfS T names sm (.whl x1_ t b x2_) = (wf T names sm t && wfSs T names sm b) := rfl
theorem wfS_e10 {t it b x1_} : wfS T names sm (.for t it b x1_) = (wfit T names sm it && wfSs T names sm b && t.names.all (fun x => sm.lookup x.1 == some x.2) && !it.isV) := rfl
theorem wfS_e11 {x i x1_ pf x2_ x3_} : wfS T names sm (.hnew x i x1_ pf x2_ x3_) = (sm.lookup x == some i && names.lookup ("Headers" : Str) == some .globalImplicit) := rfl
theorem wfS_e12 {x1_ x i x2_ ap es pc x3_} : wfS T names sm (.hcall x1_ x i x2_ ap es pc x3_) = (wfs T names sm es && sm.lookup x == some i && plainName x && ap.endLine == pc.line && decide (es.len < 20)) := rfl
theorem wfS_e13 {x i x1_ x2_ ap e pc x3_} : wfS T names sm (.happ x i x1_ x2_ ap e pc x3_) = (wf T names sm e && sm.lookup x == some i && plainName x && ap.endLine == pc.line) := rfl
theorem wfS_e14 {x i x1_ ap pc x2_ x3_ x4_} : wfS T names sm (.forE x i x1_ ap pc x2_ x3_ x4_) = (sm.lookup x == some i && plainName x && ap.endLine == pc.line) := rfl
theorem wfS_e15 {e x1_} : wfS T names sm (.ret e x1_) = (wf T names sm e) := rfl
theorem wfS_e16 {e x1_} : wfS T names sm (.asrt e x1_) = (wf T names sm e) := rfl
theorem wfS_e17 {i s} : wfS T names sm (.frz i s) = (wfS T names sm s && (sm.map (·.2)).contains i) := rfl
theorem wfSs_e0 : wfSs T names sm (.nil) = (true) := rfl
theorem wfSs_e1 {s r} : wfSs T names sm (.cons s r) = (wfS T names sm s && wfSs T names sm r) := rfl
end
-- equations end
end Mine
end
section
open PySem PySem.W PySem.Calls PyProof.Rows
set_option Elab.async false
set_option maxRecDepth 100000
namespace Mine
noncomputable def Mut (env : Env) (a : Addr) : Prop := a = env.locals ∨ ∃ x, env.cells.lookup x = some a
noncomputable def Pm (env : Env) (P₀ : Addr → Prop) (own : Nat → Option Addr) (a : Addr) : Prop := P₀ a ∧ ¬ Mut env a ∧ ∀ i, own i ≠ some a
noncomputable def LVo (P : Addr → Prop) (own : Nat → Option Addr) (h : Heap) (i : Nat) : LV → Value → Prop
  | .d d, v => RV P h d v
  | .ml xs, v => ∃ a vs, v = .ref a ∧ own i = some a ∧ h.PlainList a (List.toArray vs) ∧ RVs P h xs vs
  | .hd c ad kvs, v => ∃ a vs, (∀ x, ad = some x → a = x) ∧ HInst c P h a v ∧ own i = some a ∧ h.PlainList a (List.toArray vs) ∧ RVs P h kvs vs
  | .hr c kvs, v => ∃ a vs, HInst c P h a v ∧ P a ∧ h.IsList a (List.toArray vs) ∧ RVs P h kvs vs
  | .ed, v => ∃ b, v = .ref b ∧ (b == sysModules) = false ∧ P b ∧ h.get? b = some { cls := .type "dict", data := .dict #[] }
theorem LVo.map {P P' : Addr → Prop} {own own' : Nat → Option Addr} {h h' : Heap} {i : Nat} {l : LV} {v : Value} (x : LVo P own h i l v) (e : ∀ a o, P a → h.get? a = some o → P' a ∧ h'.get? a = some o) (e' : ∀ a o, own i = some a → h.get? a = some o → own' i = some a ∧ h'.get? a = some o) : LVo P' own' h' i l v := by
  cases l with
  | d => exact RV.map e x
  | ml xs => obtain ⟨a, vs, rfl, h1, ⟨n, hp⟩, r⟩ := x; exact ⟨a, vs, rfl, (e' _ _ h1 hp).1, ⟨n, (e' _ _ h1 hp).2⟩, r.map e⟩
  | hd c ad kvs => obtain ⟨a, vs, hz, h0, h1, ⟨n, hp⟩, r⟩ := x; exact ⟨a, vs, hz, h0.map e, (e' _ _ h1 hp).1, ⟨n, (e' _ _ h1 hp).2⟩, r.map e⟩
  | hr c kvs => obtain ⟨a, vs, h0, h1, ⟨o, h2, h3⟩, r⟩ := x; exact ⟨a, vs, h0.map e, (e _ _ h1 h2).1, ⟨o, (e _ _ h1 h2).2, h3⟩, r.map e⟩
  | ed => obtain ⟨b, rfl, h0, h1, h2⟩ := x; exact ⟨b, rfl, h0, (e _ _ h1 h2).1, (e _ _ h1 h2).2⟩
structure Rel (env : Env) (pl : Nat → Place) (sm : List (Str × Nat)) (hB hb : Heap) (P₀ : Addr → Prop) (A : Around) (k : Nat) (σ : Loc) (own : Nat → Option Addr) (s : Shared) : Prop where
  kind : env.scope.kind = .function
  globals : env.globals = mainGlobals
  builtins : env.builtins = builtinsNs
  envOk : EnvOk env pl sm
  base : Ext hB hb
  keep : Ext hb s.heap
  room : Room A k
  fresh : Fresh P₀ s.heap
  smInj : ∀ x y i, sm.lookup x = some i → sm.lookup y = some i → x = y
  ns : ∃ m, s.heap.Ns env.locals m
  nsNew : hb.get? env.locals = none
  cells : ∀ x c, env.cells.lookup x = some c → hb.get? c = none ∧ ∃ v, s.heap.IsCell c v
  cellInj : ∀ x y c, env.cells.lookup x = some c → env.cells.lookup y = some c → x = y
  noFree : ∀ x i, sm.lookup x = some i → env.kindOf x ≠ some .free
  ownIn : ∀ i a, own i = some a → hb.get? a = none ∧ P₀ a ∧ ∃ vs, s.heap.PlainList a vs
  inj : ∀ i j a, own i = some a → own j = some a → i = j
  slots : ∀ x i l, sm.lookup x = some i → σ.at i = some l → ∃ v, At s.heap (pl i) v ∧ LVo (Pm env P₀ own) own s.heap i l v
noncomputable def Out (env : Env) (own : Nat → Option Addr) (s s' : Shared) : Prop :=
  (∃ h' tk, s' = { s with heap := h', toks := tk }) ∧ (∀ b o, s.heap.get? b = some o → ¬ Mut env b → (∀ i, own i ≠ some b) → s'.heap.get? b = some o) ∧ ∀ b o, s.heap.get? b = some o → ∃ o', s'.heap.get? b = some o'
noncomputable def OwnGrow (own own' : Nat → Option Addr) (s : Shared) : Prop := ∀ i a, own' i = some a → (∃ j, own j = some a) ∨ s.heap.get? a = none
theorem Out.kp {env : Env} {own : Nat → Option Addr} {s s' : Shared} (x : Kp s s') : Out env own s s' := by
  obtain ⟨h, t, rfl, e⟩ := x
  exact ⟨⟨h, t, rfl⟩, fun b o q _ _ => e b o q, fun b o q => ⟨o, e b o q⟩⟩
theorem Out.refl {env : Env} {own : Nat → Option Addr} (s : Shared) : Out env own s s := ⟨⟨_, _, rfl⟩, fun _ _ e _ _ => e, fun _ o e => ⟨o, e⟩⟩
theorem Out.trans {env : Env} {own own' : Nat → Option Addr} {s s' s'' : Shared} (x : Out env own s s') (g : OwnGrow own own' s) (y : Out env own' s' s'') : Out env own s s'' := by
  obtain ⟨⟨h, t, rfl⟩, e, f⟩ := x
  obtain ⟨⟨h', t', rfl⟩, e', f'⟩ := y
  refine ⟨⟨h', t', rfl⟩, fun b o q m n => e' b o (e b o q m n) m fun i z => ?_, fun b o q => let ⟨o', q'⟩ := f b o q; f' b o' q'⟩
  rcases g i b z with ⟨j, hj⟩ | hj
  · exact n j hj
  · rw [q] at hj; cases hj
theorem Out.back {env : Env} {own : Nat → Option Addr} {s s' : Shared} (x : Out env own s s') {a : Addr} (h : s'.heap.get? a = none) : s.heap.get? a = none := by
  cases q : s.heap.get? a with
  | none => rfl
  | some o => obtain ⟨o', q'⟩ := x.2.2 a o q; rw [h] at q'; cases q'
theorem OwnGrow.refl {own : Nat → Option Addr} {s : Shared} : OwnGrow own own s := fun i _ e => .inl ⟨i, e⟩
section
variable {prog : Program} {w : World} {env : Env} {pl : Nat → Place} {sm : List (Str × Nat)} {hB hb : Heap} {P₀ : Addr → Prop} {A : Around} {k : Nat} {σ : Loc} {own : Nat → Option Addr} {s : Shared}
theorem LVo.lvok {P : Addr → Prop} {h : Heap} {i : Nat} {l : LV} {v : Value} (x : LVo P own h i l v) : LVok P h l v := by
  cases l with
  | d => exact x
  | ml xs => obtain ⟨a, vs, rfl, _, ⟨n, hp⟩, r⟩ := x; exact ⟨a, vs, rfl, ⟨_, hp, rfl, n, rfl⟩, r⟩
  | hd c ad kvs => obtain ⟨a, vs, _, h0, _, ⟨n, hp⟩, r⟩ := x; exact ⟨a, vs, h0, ⟨_, hp, rfl, n, rfl⟩, r⟩
  | hr c kvs => obtain ⟨a, vs, h0, _, h2, r⟩ := x; exact ⟨a, vs, h0, h2, r⟩
  | ed => obtain ⟨b, rfl, h0, _, h2⟩ := x; exact ⟨b, rfl, h0, h2⟩
theorem Rel.freshP (R : Rel env pl sm hB hb P₀ A k σ own s) : Fresh (Pm env P₀ own) s.heap := fun a ha => by
  refine ⟨R.fresh a ha, fun q => ?_, fun i q => ?_⟩
  · rcases q with rfl | ⟨x, hx⟩
    · obtain ⟨m, o, _, _, ho, _⟩ := R.ns; rw [ha] at ho; cases ho
    · obtain ⟨_, v, o, ho, _⟩ := R.cells x a hx; rw [ha] at ho; cases ho
  · obtain ⟨_, _, vs, n, ho⟩ := R.ownIn i a q; rw [ha] at ho; cases ho
theorem Rel.here (R : Rel env pl sm hB hb P₀ A k σ own s) : Here env pl sm σ hB (Pm env P₀ own) A k s :=
  ⟨R.kind, R.globals, R.builtins, R.envOk, R.base.trans R.keep, R.room, R.freshP, fun x i l h1 h2 => let ⟨v, a, b⟩ := R.slots x i l h1 h2; ⟨v, a, b.lvok⟩⟩
theorem LVo.ext {P : Addr → Prop} {h h' : Heap} {i : Nat} {l : LV} {v : Value} (x : LVo P own h i l v) (e : Ext h h') : LVo P own h' i l v := x.map (fun a o p q => ⟨p, e a o q⟩) fun a o p q => ⟨p, e a o q⟩
theorem Rel.kp {s' : Shared} (R : Rel env pl sm hB hb P₀ A k σ own s) (x : Kp s s') : Rel env pl sm hB hb P₀ A k σ own s' :=
  { R with
    keep := R.keep.trans x.ext
    fresh := R.fresh.ext x.ext
    ns := let ⟨m, h⟩ := R.ns; ⟨m, h.keeps x.ext⟩
    cells := fun y c h => let ⟨a, v, o, ho, hd⟩ := R.cells y c h; ⟨a, v, o, x.ext _ _ ho, hd⟩
    ownIn := fun i a h => let ⟨b, p, vs, n, hp⟩ := R.ownIn i a h; ⟨b, p, vs, n, x.ext _ _ hp⟩
    slots := fun y i l h1 h2 => let ⟨v, a, b⟩ := R.slots y i l h1 h2; ⟨v, a.ext x.ext, b.ext x.ext⟩ }
theorem Rel.change {h' : Heap} {tk : Nat} {c : Addr} (R : Rel env pl sm hB hb P₀ A k σ own s) (hm : Mut env c) (hs : Heap.SameBut c s.heap h') (hns : ∃ m, h'.Ns env.locals m) (hcs : ∀ x c, env.cells.lookup x = some c → ∃ v, h'.IsCell c v) :
    Ext hb h' ∧ Fresh P₀ h' ∧ (∀ i a, own i = some a → hb.get? a = none ∧ P₀ a ∧ ∃ vs, h'.PlainList a vs) ∧ Out env own s { s with heap := h', toks := tk } ∧ (∀ i l v, LVo (Pm env P₀ own) own s.heap i l v → LVo (Pm env P₀ own) own h' i l v) := by
  have hcn : hb.get? c = none := by
    rcases hm with rfl | ⟨x, hx⟩
    · exact R.nsNew
    · exact (R.cells x c hx).1
  have hce : ∃ o, s.heap.get? c = some o := by
    rcases hm with rfl | ⟨x, hx⟩
    · obtain ⟨m, o, _, _, ho, _⟩ := R.ns; exact ⟨o, ho⟩
    · obtain ⟨_, v, o, ho, _⟩ := R.cells x c hx; exact ⟨o, ho⟩
  have hce' : ∃ o, h'.get? c = some o := by
    rcases hm with rfl | ⟨x, hx⟩
    · obtain ⟨m, o, _, _, ho, _⟩ := hns; exact ⟨o, ho⟩
    · obtain ⟨v, o, ho, _⟩ := hcs x c hx; exact ⟨o, ho⟩
  have hco : ∀ i a, own i = some a → a ≠ c := by
    rintro i a ho rfl
    obtain ⟨_, _, vs, hp⟩ := R.ownIn i a ho
    rcases hm with rfl | ⟨x, hx⟩
    · obtain ⟨m, hn⟩ := R.ns; exact plain_not_ns hp hn
    · obtain ⟨_, v, hc⟩ := R.cells x a hx; exact plain_not_cell hp hc
  have ext : ∀ b o, b ≠ c → s.heap.get? b = some o → h'.get? b = some o := fun b o h1 h2 => hs.extBut b o h1 h2
  refine ⟨fun b o e => ext b o (fun q => by rw [q, hcn] at e; cases e) (R.keep b o e), fun a ha => R.fresh a ?_, fun i a ho => ?_, ⟨⟨_, _, rfl⟩, fun b o e m _ => ext b o (fun q => m (q ▸ hm)) e, fun b o e => if q : b = c then q ▸ hce' else ⟨o, ext b o q e⟩⟩, fun i l v x => ?_⟩
  · by_cases q : a = c
    · subst q; obtain ⟨o, ho⟩ := hce'; rw [ha] at ho; cases ho
    · rw [← hs.2 a q]; exact ha
  · obtain ⟨h1, h2, vs, n, hp⟩ := R.ownIn i a ho
    exact ⟨h1, h2, vs, n, ext a _ (hco i a ho) hp⟩
  · have eP : ExtP (Pm env P₀ own) s.heap h' := fun b o p e => ext b o (fun q => p.2.1 (q ▸ hm)) e
    exact x.map (fun a o p q => ⟨p, eP a o p q⟩) fun a o p q => ⟨p, ext a o (hco i a p) q⟩
theorem Rel.put {x : Str} {i : Nat} {l : LV} {v : Value} (R : Rel env pl sm hB hb P₀ A k σ own s) (hx : sm.lookup x = some i) (hv : LVo (Pm env P₀ own) own s.heap i l v) :
    wpAny (model prog w) A (storeName env x v) (fun _ s' => Rel env pl sm hB hb P₀ A k (σ.put i l) own s' ∧ Out env own s s') NoE s := by
  have hp : (env.scope.kind == .class || (env.scope.kind == .module && env.locals != env.globals)) = false := by rw [R.kind]; rfl
  rcases R.envOk x i hx with ⟨h1, h2⟩ | ⟨h1, c, h2, h3⟩
  · obtain ⟨m, hn⟩ := R.ns
    refine wpAny_storeName_local h1 hn (fun h' hn' hs' => ?_) hp
    have hcs : ∀ x c, env.cells.lookup x = some c → ∃ v, h'.IsCell c v := fun y c hc => by
      obtain ⟨_, v, hv⟩ := R.cells y c hc
      obtain ⟨o, ho, hd⟩ := id hv
      exact ⟨v, o, hs'.extBut _ _ (fun q => cell_not_ns hv (q ▸ hn)) ho, hd⟩
    obtain ⟨c1, c2, c3, c4, c5⟩ := R.change (tk := s.toks + 1) (.inl rfl) hs' ⟨_, hn'⟩ hcs
    refine ⟨{ R with keep := c1, fresh := c2, ns := ⟨_, hn'⟩, cells := fun y c hc => ⟨(R.cells y c hc).1, hcs y c hc⟩, ownIn := c3, slots := fun y j l' hy hl => ?_ }, c4⟩
    rcases at_put hl with ⟨e1, e2⟩ | ⟨e1, e2⟩
    · subst e1 e2
      refine ⟨v, ?_, c5 _ _ _ hv⟩
      rw [h2]; exact ⟨_, hn', by simp⟩
    · obtain ⟨u, a, b⟩ := R.slots y j l' hy e2
      refine ⟨u, ?_, c5 _ _ _ b⟩
      have hne : y ≠ x := by rintro rfl; rw [hx] at hy; cases hy; exact e1 rfl
      rcases R.envOk y j hy with ⟨q1, q2⟩ | ⟨q1, c, q2, q3⟩
      · rw [q2] at a ⊢
        obtain ⟨m₂, hn₂, e3⟩ := a
        rw [ns_unique hn₂ hn] at e3
        exact ⟨_, hn', by simp [hne, e3]⟩
      · rw [q3] at a ⊢
        obtain ⟨o, ho, hd⟩ := a
        exact ⟨o, hs'.extBut _ _ (fun q => cell_not_ns ⟨o, ho, hd⟩ (q ▸ hn)) ho, hd⟩
  · have h1' : env.kindOf x = some .cell := h1.resolve_right (R.noFree x i hx)
    obtain ⟨_, v₀, hc⟩ := R.cells x c h2
    refine wpAny_storeName_cell R.kind h1' h2 hc fun h' hc' hs' => ?_
    obtain ⟨m, hn⟩ := R.ns
    have hnc : env.locals ≠ c := fun q => cell_not_ns hc (q ▸ hn)
    have hcs : ∀ x c, env.cells.lookup x = some c → ∃ v, h'.IsCell c v := fun y c' hy => by
      by_cases q : c' = c
      · subst q; exact ⟨_, hc'⟩
      · obtain ⟨_, v, o, ho, hd⟩ := R.cells y c' hy
        exact ⟨v, o, hs'.extBut _ _ q ho, hd⟩
    have hn' : h'.Ns env.locals m := hn.sameBut hs' hnc
    obtain ⟨c1, c2, c3, c4, c5⟩ := R.change (tk := s.toks) (.inr ⟨x, h2⟩) hs' ⟨_, hn'⟩ hcs
    refine ⟨{ R with keep := c1, fresh := c2, ns := ⟨_, hn'⟩, cells := fun y c hc => ⟨(R.cells y c hc).1, hcs y c hc⟩, ownIn := c3, slots := fun y j l' hy hl => ?_ }, c4⟩
    rcases at_put hl with ⟨e1, e2⟩ | ⟨e1, e2⟩
    · subst e1 e2
      refine ⟨v, ?_, c5 _ _ _ hv⟩
      rw [h3]; exact hc'
    · obtain ⟨u, a, b⟩ := R.slots y j l' hy e2
      refine ⟨u, ?_, c5 _ _ _ b⟩
      have hne : y ≠ x := by rintro rfl; rw [hx] at hy; cases hy; exact e1 rfl
      rcases R.envOk y j hy with ⟨q1, q2⟩ | ⟨q1, c', q2, q3⟩
      · rw [q2] at a ⊢
        obtain ⟨m₂, hn₂, e3⟩ := a
        exact ⟨m₂, hn₂.sameBut hs' hnc, e3⟩
      · rw [q3] at a ⊢
        obtain ⟨o, ho, hd⟩ := a
        exact ⟨o, hs'.extBut _ _ (fun q => hne (R.cellInj y x c (q ▸ q2) h2)) ho, hd⟩
end
end Mine
end
section
open PySem PySem.W PySem.Calls PyProof.Rows
set_option Elab.async false
set_option maxRecDepth 100000
namespace Mine
section
variable {prog : Program} {w : World} {env : Env} {pl : Nat → Place} {sm : List (Str × Nat)} {hB hb : Heap} {P₀ : Addr → Prop} {A : Around} {k : Nat} {σ : Loc} {own : Nat → Option Addr} {s : Shared}
theorem Rel.not_mut {i : Nat} {a : Addr} (R : Rel env pl sm hB hb P₀ A k σ own s) (ho : own i = some a) : ¬ Mut env a := by
  obtain ⟨_, _, vs, hp⟩ := R.ownIn i a ho
  rintro (rfl | ⟨x, hx⟩)
  · obtain ⟨m, hn⟩ := R.ns; exact plain_not_ns hp hn
  · obtain ⟨_, v, hc⟩ := R.cells x a hx; exact plain_not_cell hp hc
theorem Rel.chgL {x : Str} {i : Nat} {a : Addr} {l' : LV} {v : Value} {h' : Heap} {tk : Nat} (R : Rel env pl sm hB hb P₀ A k σ own s) (hx : sm.lookup x = some i) (ho : own i = some a) (hat : At s.heap (pl i) v)
    (hs : ∀ b o, b ≠ a → s.heap.get? b = some o → h'.get? b = some o) (hp : ∃ ws, h'.PlainList a ws) (hr : LVo (Pm env P₀ own) own h' i l' v) :
    Rel env pl sm hB hb P₀ A k (σ.put i l') own { s with heap := h', toks := tk } ∧ Out env own s { s with heap := h', toks := tk } := by
  have hm := R.not_mut ho
  obtain ⟨han, hP, _, _⟩ := R.ownIn i a ho
  have ext : ∀ b o, b ≠ a → s.heap.get? b = some o → h'.get? b = some o := hs
  have nsk : ∀ {L : Addr} {m : Str → Option Value}, s.heap.Ns L m → L ≠ a → h'.Ns L m := fun hn hne => hn.at' fun o e => hs _ o hne e
  have hat' : ∀ {p : Place} {v : Value}, At s.heap p v → (∀ L y, p = .ns L y → L = env.locals) → (∀ c, p = .cell c → Mut env c) → At h' p v := by
    intro p v q h1 h2
    cases p with
    | ns L y =>
      obtain ⟨m, hn, e⟩ := q
      exact ⟨m, nsk hn (fun z => hm (.inl (z ▸ h1 L y rfl))), e⟩
    | cell c =>
      obtain ⟨o, h3, h4⟩ := q
      exact ⟨o, ext c o (fun z => hm (z ▸ h2 c rfl)) h3, h4⟩
  have hpl : ∀ {y : Str} {j : Nat}, sm.lookup y = some j → (∀ L z, pl j = .ns L z → L = env.locals) ∧ (∀ c, pl j = .cell c → Mut env c) := by
    intro y j hy
    rcases R.envOk y j hy with ⟨_, q⟩ | ⟨_, c, q1, q2⟩
    · exact ⟨fun L z e => by rw [q] at e; cases e; rfl, fun c e => by rw [q] at e; cases e⟩
    · exact ⟨fun L z e => by rw [q2] at e; (cases e), fun c' e => by rw [q2] at e; cases e; exact .inr ⟨y, q1⟩⟩
  have eP : ExtP (Pm env P₀ own) s.heap h' := fun b o p e => ext b o (fun q => p.2.2 i (q ▸ ho)) e
  refine ⟨{ R with
    keep := fun b o e => ext b o (fun q => by rw [q, han] at e; cases e) (R.keep b o e)
    fresh := fun b hb' => R.fresh b (by
      by_cases q : b = a
      · subst q; obtain ⟨_, n, hp⟩ := hp; have hb2 : h'.get? b = none := hb'; rw [hb2] at hp; cases hp
      · cases z : s.heap.get? b with
        | none => rfl
        | some o => have hb2 : h'.get? b = none := hb'; rw [hs b o q z] at hb2; cases hb2)
    ns := let ⟨m, hn⟩ := R.ns; ⟨m, nsk hn (fun z => hm (.inl z.symm))⟩
    cells := fun y c hc => let ⟨h1, v, o, h3, h4⟩ := R.cells y c hc; ⟨h1, v, o, ext c o (fun z => hm (z ▸ .inr ⟨y, hc⟩)) h3, h4⟩
    ownIn := fun j b hj => ?_
    slots := fun y j l hy hl => ?_ }, ⟨⟨_, _, rfl⟩, fun b o e _ n => ext b o (fun q => n i (q ▸ ho)) e, fun b o e => if q : b = a then let ⟨_, n, hp⟩ := hp; ⟨_, q ▸ hp⟩ else ⟨o, ext b o q e⟩⟩⟩
  · obtain ⟨h1, h2, vs, n, h3⟩ := R.ownIn j b hj
    by_cases q : b = a
    · subst q; exact ⟨h1, h2, hp⟩
    · exact ⟨h1, h2, vs, n, ext b _ q h3⟩
  · rcases at_put hl with ⟨e1, e2⟩ | ⟨e1, e2⟩
    · subst e1 e2
      exact ⟨v, hat' hat (hpl hy).1 (hpl hy).2, hr⟩
    · obtain ⟨u, q1, q2⟩ := R.slots y j l hy e2
      exact ⟨u, hat' q1 (hpl hy).1 (hpl hy).2, q2.map (fun b o p q => ⟨p, eP b o p q⟩) fun b o h q => ⟨h, ext b o (fun z => e1 (R.inj j i a (z ▸ h) ho)) q⟩⟩
theorem Rel.chg {x : Str} {i : Nat} {a : Addr} {xs : List PyData} {ws : List Value} {h' : Heap} {tk : Nat} (R : Rel env pl sm hB hb P₀ A k σ own s) (hx : sm.lookup x = some i) (ho : own i = some a) (hat : At s.heap (pl i) (.ref a))
    (hs : Heap.SameBut a s.heap h') (hp : h'.PlainList a (List.toArray ws)) (hr : RVs (Pm env P₀ own) s.heap xs ws) :
    Rel env pl sm hB hb P₀ A k (σ.put i (.ml xs)) own { s with heap := h', toks := tk } ∧ Out env own s { s with heap := h', toks := tk } :=
  R.chgL hx ho hat (fun b o h1 h2 => hs.extBut b o h1 h2) ⟨_, hp⟩ ⟨a, ws, rfl, ho, hp, hr.but fun b o p e => hs.extBut b o (fun q => p.2.2 i (q ▸ ho)) e⟩
theorem Rel.freeze {i : Nat} {xs : List PyData} {x : Str} (R : Rel env pl sm hB hb P₀ A k σ own s) (hx : sm.lookup x = some i) (hl : σ.at i = some (.ml xs)) :
    Rel env pl sm hB hb P₀ A k (σ.put i (.d (.list xs))) (fun j => if j = i then none else own j) s := by
  have sub : ∀ j a, (if j = i then none else own j) = some a → own j = some a ∧ j ≠ i := fun j a h => by
    by_cases q : j = i
    · rw [if_pos q] at h; cases h
    · rw [if_neg q] at h; exact ⟨h, q⟩
  have mono : ∀ a, Pm env P₀ own a → Pm env P₀ (fun j => if j = i then none else own j) a := fun a h => ⟨h.1, h.2.1, fun j q => h.2.2 j (sub j a q).1⟩
  refine { R with ownIn := fun j a h => R.ownIn j a (sub j a h).1, inj := fun j j' a h h' => R.inj j j' a (sub j a h).1 (sub j' a h').1, slots := fun y j l hy hl' => ?_ }
  rcases at_put hl' with ⟨e1, e2⟩ | ⟨e1, e2⟩
  · subst e1 e2
    obtain ⟨v, h1, a, vs, rfl, h2, ⟨n, h3⟩, r⟩ := R.slots y j _ hy hl
    refine ⟨_, h1, RV.list (vs := vs) ⟨(R.ownIn j a h2).2.1, R.not_mut h2, fun j' q => ?_⟩ ⟨_, h3, rfl, n, rfl⟩ (r.mono mono)⟩
    have := sub j' a q
    exact this.2 (R.inj j' j a this.1 h2)
  · obtain ⟨u, q1, q2⟩ := R.slots y j l hy e2
    exact ⟨u, q1, q2.map (fun a o p q => ⟨mono a p, q⟩) fun a o h q => ⟨(if_neg e1).trans h, q⟩⟩
theorem Rel.adopt {i : Nat} {a : Addr} {vs : Array Value} {s₁ : Shared} (R : Rel env pl sm hB hb P₀ A k σ own s) (kp : Kp s s₁) (hn : s.heap.get? a = none) (hp : s₁.heap.PlainList a vs) :
    Rel env pl sm hB hb P₀ A k (σ.set i none) (fun j => if j = i then some a else own j) s₁ ∧ OwnGrow own (fun j => if j = i then some a else own j) s := by
  have na : ∀ j, own j ≠ some a := fun j q => by obtain ⟨_, _, vs, n, h⟩ := R.ownIn j a q; rw [hn] at h; cases h
  have cases' : ∀ j b, (if j = i then some a else own j) = some b → (j = i ∧ b = a) ∨ (j ≠ i ∧ own j = some b) := fun j b h => by
    by_cases q : j = i
    · rw [if_pos q] at h; cases h; exact .inl ⟨q, rfl⟩
    · rw [if_neg q] at h; exact .inr ⟨q, h⟩
  have hab : hb.get? a = none := by
    cases q : hb.get? a with
    | none => rfl
    | some o => have := R.keep a o q; rw [hn] at this; cases this
  have mono : ∀ b o, Pm env P₀ own b → s.heap.get? b = some o → Pm env P₀ (fun j => if j = i then some a else own j) b := fun b o h e => ⟨h.1, h.2.1, fun j q => by
    rcases cases' j b q with ⟨_, rfl⟩ | ⟨_, q⟩
    · rw [hn] at e; cases e
    · exact h.2.2 j q⟩
  have R₁ := R.kp kp
  refine ⟨{ R₁ with
    ownIn := fun j b h => ?_
    inj := fun j j' b h h' => ?_
    slots := fun y j l hy hl => ?_ }, fun j b h => ?_⟩
  · rcases cases' j b h with ⟨_, rfl⟩ | ⟨_, q⟩
    · exact ⟨hab, R.fresh _ hn, vs, hp⟩
    · exact R₁.ownIn j b q
  · rcases cases' j b h with ⟨e1, rfl⟩ | ⟨e1, q⟩
    · rcases cases' j' _ h' with ⟨e2, _⟩ | ⟨e2, q'⟩
      · rw [e1, e2]
      · exact absurd q' (na j')
    · rcases cases' j' b h' with ⟨e2, rfl⟩ | ⟨e2, q'⟩
      · exact absurd q (na j)
      · exact R.inj j j' b q q'
  · obtain ⟨hji, hl'⟩ := at_del hl
    obtain ⟨u, q1, q2⟩ := R.slots y j l hy hl'
    exact ⟨u, q1.ext kp.ext, q2.map (fun a o p q => ⟨mono a o p q, kp.ext a o q⟩) fun a o h q => ⟨(if_neg hji).trans h, kp.ext a o q⟩⟩
  · rcases cases' j b h with ⟨_, rfl⟩ | ⟨_, q⟩
    · exact .inr hn
    · exact .inl ⟨j, q⟩
end
end Mine
end
section
open PySem PySem.W PySem.Calls PyProof.Rows
set_option Elab.async false
set_option maxRecDepth 100000
namespace Mine
noncomputable def But (P₀ : Addr → Prop) (J : Addr) (a : Addr) : Prop := P₀ a ∧ a ≠ J
section
variable {prog : Program} {w : World} {env : Env} {pl : Nat → Place} {sm : List (Str × Nat)} {hB hb : Heap} {P₀ P₁ : Addr → Prop} {A : Around} {k : Nat} {σ : Loc} {own : Nat → Option Addr} {s : Shared}
theorem Rel.restrict {J : Addr} {s₁ : Shared} (R : Rel env pl sm hB hb P₀ A k σ own s) (kp : Kp s s₁) (hn : s.heap.get? J = none) (he : ∃ o, s₁.heap.get? J = some o) : Rel env pl sm hB hb (But P₀ J) A k σ own s₁ := by
  have R₁ := R.kp kp
  refine { R₁ with
    fresh := fun a ha => ⟨R₁.fresh a ha, fun q => by obtain ⟨o, ho⟩ := he; rw [q, ho] at ha; cases ha⟩
    ownIn := fun i a h => ?_
    slots := fun y i l hy hl => ?_ }
  · obtain ⟨h1, h2, h3⟩ := R₁.ownIn i a h
    refine ⟨h1, ⟨h2, fun q => ?_⟩, h3⟩
    obtain ⟨_, _, vs, n, h4⟩ := R.ownIn i a h
    rw [q, hn] at h4; cases h4
  · obtain ⟨v, a, b⟩ := R.slots y i l hy hl
    exact ⟨v, a.ext kp.ext, b.map (fun a o p q => ⟨⟨⟨p.1, fun z => by rw [z, hn] at q; cases q⟩, p.2.1, p.2.2⟩, kp.ext a o q⟩) fun a o p q => ⟨p, kp.ext a o q⟩⟩
theorem Rel.beside {J : Addr} {h' : Heap} {tk : Nat} (R : Rel env pl sm hB hb (But P₀ J) A k σ own s) (hk : ∀ b o, b ≠ J → s.heap.get? b = some o → h'.get? b = some o) (hJb : hb.get? J = none) (hJm : ¬ Mut env J)
    (hP : ∀ a, But P₀ J a → P₁ a) (hf : h'.get? J = none → P₁ J) : Rel env pl sm hB hb P₁ A k σ own { s with heap := h', toks := tk } := by
  have hJo : ∀ i a, own i = some a → a ≠ J := fun i a h => (R.ownIn i a h).2.1.2
  refine { R with
    keep := fun b o e => hk b o (fun q => by rw [q, hJb] at e; cases e) (R.keep b o e)
    fresh := fun a ha => ?_
    ns := let ⟨m, hn⟩ := R.ns; ⟨m, hn.at' fun o e => hk _ o (fun q => hJm (.inl q.symm)) e⟩
    cells := fun y c hc => let ⟨h1, v, o, h3, h4⟩ := R.cells y c hc; ⟨h1, v, o, hk c o (fun q => hJm (.inr ⟨y, q ▸ hc⟩)) h3, h4⟩
    ownIn := fun i a h => let ⟨h1, h2, vs, n, h3⟩ := R.ownIn i a h; ⟨h1, hP a h2, vs, n, hk _ _ (hJo i a h) h3⟩
    slots := fun y i l hy hl => ?_ }
  · by_cases q : a = J
    · subst q; exact hf ha
    · refine hP a (R.fresh a ?_)
      cases z : s.heap.get? a with
      | none => rfl
      | some o =>
        have h2 : h'.get? a = none := ha
        rw [hk a o q z] at h2; cases h2
  · obtain ⟨v, a, b⟩ := R.slots y i l hy hl
    refine ⟨v, ?_, b.map (fun a o p q => ⟨⟨hP a p.1, p.2.1, p.2.2⟩, hk a o p.1.2 q⟩) fun a o h q => ⟨h, hk a o (hJo _ a h) q⟩⟩
    rcases R.envOk y i hy with ⟨_, q⟩ | ⟨_, c, q1, q2⟩
    · rw [q] at a ⊢
      obtain ⟨m, hn, e⟩ := a
      exact ⟨m, hn.at' fun o e => hk _ o (fun q => hJm (.inl q.symm)) e, e⟩
    · rw [q2] at a ⊢
      obtain ⟨o, h3, h4⟩ := a
      exact ⟨o, hk c o (fun q => hJm (.inr ⟨y, q ▸ q1⟩)) h3, h4⟩
theorem Rel.mut_there (R : Rel env pl sm hB hb P₀ A k σ own s) {a : Addr} (h : s.heap.get? a = none) : ¬ Mut env a := by
  rintro (rfl | ⟨x, hx⟩)
  · obtain ⟨m, o, _, _, ho, _⟩ := R.ns; rw [h] at ho; cases ho
  · obtain ⟨_, v, o, ho, _⟩ := R.cells x a hx; rw [h] at ho; cases ho
theorem Rel.base_there (R : Rel env pl sm hB hb P₀ A k σ own s) {a : Addr} (h : s.heap.get? a = none) : hb.get? a = none := by
  cases q : hb.get? a with
  | none => rfl
  | some o => have := R.keep a o q; rw [h] at this; cases this
noncomputable def FlOk (P : Addr → Prop) (s' : Shared) : Fl → Flow → Prop
  | .next, f => f = .next
  | .ret d, f => ∃ v, f = .ret v ∧ RV P s'.heap d v
noncomputable def ExPost (env : Env) (pl : Nat → Place) (sm : List (Str × Nat)) (hB hb : Heap) (P₀ : Addr → Prop) (A : Around) (k : Nat) (own : Nat → Option Addr) (s : Shared) (fl : Fl) (σ' : Loc) (f : Flow) (s' : Shared) : Prop :=
  ∃ own', Rel env pl sm hB hb P₀ A k σ' own' s' ∧ Out env own s s' ∧ OwnGrow own own' s ∧ FlOk (Pm env P₀ own') s' fl f
theorem OwnGrow.trans {own' own'' : Nat → Option Addr} {s₁ : Shared} (o : Out env own s s₁) (g : OwnGrow own own' s) (g' : OwnGrow own' own'' s₁) : OwnGrow own own'' s := fun i a h => by
  rcases g' i a h with ⟨j, hj⟩ | hj
  · exact g j a hj
  · exact .inr (o.back hj)
theorem ExPost.after {own' : Nat → Option Addr} {s₁ s' : Shared} {fl : Fl} {σ' : Loc} {f : Flow} (o : Out env own s s₁) (g : OwnGrow own own' s) (x : ExPost env pl sm hB hb P₀ A k own' s₁ fl σ' f s') : ExPost env pl sm hB hb P₀ A k own s fl σ' f s' := by
  obtain ⟨own'', R, o', g', q⟩ := x
  exact ⟨own'', R, o.trans g o', OwnGrow.trans o g g', q⟩
end
end Mine
end
section
open PySem PySem.W PySem.Calls PyProof.Rows
set_option Elab.async false
set_option maxRecDepth 100000
namespace Mine
section
variable {prog : Program} {w : World} {K : Frag} {hB hb : Heap} {T : Tab} {Γ : Nat → List PyData → Option PyData} {hG : Hs} {k : Nat}
  {env : Env} {pl : Nat → Place} {sm : List (Str × Nat)} {P₀ : Addr → Prop} {A : Around} {σ : Loc} {own : Nat → Option Addr} {s : Shared}
theorem ExPost.next {s' : Shared} {σ' : Loc} (R : Rel env pl sm hB hb P₀ A k σ' own s') (o : Out env own s s') : ExPost env pl sm hB hb P₀ A k own s .next σ' .next s' := ⟨own, R, o, OwnGrow.refl, rfl⟩
theorem compPost_mono {M : Model} {A : Around} {u : Value → Sem Unit} {Q Q' : Value → Shared → Prop} {acc : Value} {C : Addr} {s' : Shared} (x : compPost M A NoE (some u) Q acc C (.ok .next) s') (h : ∀ v s, Q v s → Q' v s) : compPost M A NoE (some u) Q' acc C (.ok .next) s' := by
  show wpAny M A (u acc) _ NoE s'
  refine wpAny_mono x (fun _ s'' g => ?_) fun _ _ f => f
  obtain ⟨m, hn, q⟩ := g
  exact ⟨m, hn, fun h' hs' => h _ _ (q h' hs')⟩
theorem blockKind_fn (hk : env.scope.kind = .function) : (env.blockKind == .function) = true := by unfold Env.blockKind; rw [hk]; rfl
theorem swaps_eq (hk : env.scope.kind = .function) (e : IE) (x : Str) (px : Pos) (line : Nat) : swapsWith e.ast (some (.Name x px)) line env = pure (exchanged env.scope.names x px e) := by
  have hb := blockKind_fn hk
  cases e with
  | comp elt t it ifs sc sm' pe =>
    show (pure (env.blockKind == .function && env.kindOf x == some .local && px.line == pe.line && !(sc.names.any fun y => y.1 == x && (y.2 == .local || y.2 == .cell))) : Sem Bool) = _
    rw [hb, Bool.true_and]; rfl
  | comp2 elt t it t2 it2 sc sm' pe =>
    show (pure (env.blockKind == .function && env.kindOf x == some .local && px.line == pe.line && !(sc.names.any fun y => y.1 == x && (y.2 == .local || y.2 == .cell))) : Sem Bool) = _
    rw [hb, Bool.true_and]; rfl
  | _ => rfl
theorem asg_plain {x : Str} {i : Nat} {px p : Pos} {e : IE} {d : PyData} (B : Base prog w K hB T Γ hG k) (hw : wf T env.scope.names sm e = true) (hx : sm.lookup x = some i) (R : Rel env pl sm hB hb P₀ A k σ own s) (he : ev Γ hG e σ = some d)
    (hs : exchanged env.scope.names x px e = false) : wpAny (model prog w) A (exec (.Assign [.Name x px] e.ast p) env) (ExPost env pl sm hB hb P₀ A k own s .next (σ.put i (.d d))) NoE s := by
  refine wpAny_Assign_Name (wpAny_mono (ev_ok B e hw R.here he) (fun v s₁ g₁ => ?_) fun _ _ f => f) (by rw [swaps_eq R.kind, hs])
  have R₁ := R.kp g₁.1
  refine wpAny_mono (R₁.put (prog := prog) (w := w) hx (l := .d d) g₁.2) (fun _ s₂ g₂ => ?_) fun _ _ f => f
  exact .next g₂.1 ((Out.kp g₁.1).trans OwnGrow.refl g₂.2)
theorem use_done {x : Str} {i : Nat} {px : Pos} {ds : List PyData} {s₁ s₂ : Shared} {C D : Addr} (hx : sm.lookup x = some i) (R : Rel env pl sm hB hb P₀ A k σ own s) (k₁ : Kp s s₁) (b : BlkEnd (Pm env P₀ own) s₁ ds D C s₂) :
    compPost (model prog w) A NoE (some (assign (.Name x px) env)) (fun _ s' => ExPost env pl sm hB hb P₀ A k own s .next (σ.put i (.d (.list ds))) .next s') (.ref D) C (.ok .next) s₂ := by
  obtain ⟨hD, hC, hDC, ⟨m, hn⟩, ⟨ys, hpl, hr⟩, kp'⟩ := b
  have R₁ := R.kp k₁
  have hCe : ∃ o, s₂.heap.get? C = some o := by obtain ⟨o, _, _, ho, _⟩ := hn; exact ⟨o, ho⟩
  have R₂ := R₁.restrict (J := C) kp' hC hCe
  have hv : LVo (Pm env (But P₀ C) own) own s₂.heap i (.d (.list ds)) (.ref D) := by
    refine RV.list (vs := ys) ⟨⟨R₁.fresh D hD, hDC⟩, R₁.mut_there hD, fun i q => ?_⟩ ?_ (hr.mono fun a q => ⟨⟨q.1.1, q.2.1⟩, q.1.2.1, q.1.2.2⟩)
    · obtain ⟨_, _, vs, n, h⟩ := R₁.ownIn i D q; rw [hD] at h; cases h
    · obtain ⟨n, ho⟩ := hpl; exact ⟨_, ho, rfl, n, rfl⟩
  show wpAny _ _ (assign (.Name x px) env (.ref D)) _ _ _
  refine wpAny_assign_Name (wpAny_mono (R₂.put (prog := prog) (w := w) hx hv) (fun _ s₃ g₃ => ?_) fun _ _ f => f)
  obtain ⟨R₃, o₃⟩ := g₃
  have hCm := R₁.mut_there hC
  have hCo : ∀ i, own i ≠ some C := fun i q => by obtain ⟨_, _, vs, n, h⟩ := R₁.ownIn i C q; rw [hC] at h; cases h
  refine ⟨m, hn.at' fun o e => o₃.2.1 C o e hCm hCo, fun h'' hs'' => ?_⟩
  have hk : ∀ b o, b ≠ C → s₃.heap.get? b = some o → h''.get? b = some o := fun b o h1 h2 => hs''.extBut b o h1 h2
  have R₄ := R₃.beside (P₁ := P₀) (h' := h'') (tk := s₃.toks) hk (R₁.base_there hC) hCm (fun a q => q.1) fun _ => R₁.fresh C hC
  refine .next R₄ ?_
  have hsC : s.heap.get? C = none := (Out.kp (env := env) (own := own) k₁).back hC
  have nC : ∀ b o, s.heap.get? b = some o → b ≠ C := fun b o e q => by rw [q, hsC] at e; cases e
  have kk : Kp s s₂ := k₁.trans kp'
  obtain ⟨h0, t0, rfl, x0⟩ := kk
  obtain ⟨⟨h3, t3, rfl⟩, x3, y3⟩ := o₃
  refine ⟨⟨h'', t3, rfl⟩, fun b o e m n => hk b o (nC b o e) (x3 b o (x0 b o e) m n), fun b o e => ?_⟩
  obtain ⟨o', q⟩ := y3 b o (x0 b o e)
  exact ⟨o', hk b o' (nC b o e) q⟩
theorem asg_ok {x : Str} {i : Nat} {px p : Pos} {e : IE} {d : PyData} (B : Base prog w K hB T Γ hG k) (hw : wf T env.scope.names sm e = true) (hx : sm.lookup x = some i) (R : Rel env pl sm hB hb P₀ A k σ own s) (he : ev Γ hG e σ = some d) :
    wpAny (model prog w) A (exec (.Assign [.Name x px] e.ast p) env) (ExPost env pl sm hB hb P₀ A k own s .next (σ.put i (.d d))) NoE s := by
  cases hs : exchanged env.scope.names x px e with
  | false => exact asg_plain B hw hx R he hs
  | true =>
    cases e with
    | comp elt t it ifs sc sm' pe =>
      rw [exec_Assign_Name_used _ _ _ _ (by rw [swaps_eq R.kind, hs])]
      refine wpAny_bind (wpAny_standAt (wpAny_bind ?_))
      show wpAny _ _ (comprehension (IE.comp elt t it ifs sc sm' pe).ast sc env it.ast.pos (newList []) false (eval it.ast env) (some (assign (.Name x px) env)) >>= fun _ => pure ()) _ _ _
      refine wpAny_bind (comp_use B hw R.here he fun s₁ ds D C s' hd k₁ b => ?_)
      subst hd
      exact compPost_mono (use_done hx R k₁ b) fun _ _ q => wpAny_pure (wpAny_pure q)
    | comp2 elt t it t2 it2 sc sm' pe =>
      rw [exec_Assign_Name_used _ _ _ _ (by rw [swaps_eq R.kind, hs])]
      refine wpAny_bind (wpAny_standAt (wpAny_bind ?_))
      show wpAny _ _ (comprehension (IE.comp2 elt t it t2 it2 sc sm' pe).ast sc env it.ast.pos (newList []) false (eval it.ast env) (some (assign (.Name x px) env)) >>= fun _ => pure ()) _ _ _
      refine wpAny_bind (comp2_use B hw R.here he fun s₁ ds D C s' hd k₁ b => ?_)
      subst hd
      exact compPost_mono (use_done hx R k₁ b) fun _ _ q => wpAny_pure (wpAny_pure q)
    | _ => cases hs
theorem strD_inv {f : Str → Str → Option PyData} {x : Str} {d : PyData} : ∀ {ys : List PyData}, strD f (.str x) ys = some d → ∃ y, ys = [.str y] ∧ f x y = some d
  | [.str y], e => ⟨y, rfl, e⟩
theorem meth_split {x : Str} {ys xs : List PyData} (e : meth .split (.str x) ys = some (.list xs)) : ∃ y, ys = [.str y] ∧ x.length ≤ bigN ∧ 0 < y.length ∧ (Txt.split x y).length ≤ bigN ∧ xs = (Txt.split x y).map .str := by
  have e : strD (fun x y => if x.length ≤ bigN && decide (0 < y.length) && decide ((Txt.split x y).length ≤ bigN) then some (.list ((Txt.split x y).map .str)) else none) (.str x) ys = some (.list xs) := e
  obtain ⟨y, rfl, e⟩ := strD_inv e
  obtain ⟨h, e⟩ := some_if e
  simp only [Bool.and_eq_true, decide_eq_true_eq] at h
  cases e
  exact ⟨y, rfl, h.1.1, h.1.2, h.2, rfl⟩
theorem rvs_flat {P P' : Addr → Prop} {h : Heap} : ∀ {xs : List PyData} {vs : List Value}, (∀ x ∈ xs, flatD x = true) → RVs P h xs vs → RVs P' h xs vs
  | [], vs, _, r => by rw [r.inv_nil]; exact RVs.nil
  | x :: xs, vs, hf, r => by
    obtain ⟨v, r', rfl, a, q⟩ := r.inv_cons
    refine RVs.cons ?_ (rvs_flat (fun y hy => hf y (List.mem_cons_of_mem _ hy)) q)
    have := hf x (List.mem_cons_self ..)
    cases x with
    | none => rw [a.inv_none]; exact RV.none
    | bool b => rw [a.inv_bool]; exact RV.bool _
    | int i => obtain ⟨t, rfl⟩ := a.inv_int; exact RV.int _ _
    | str i => obtain ⟨t, rfl⟩ := a.inv_str; exact RV.str _ _
    | _ => cases this
theorem rangeItems_flat {ds xs : List PyData} (e : rangeItems ds = some xs) : ∀ x ∈ xs, flatD x = true := by
  have go : ∀ {a b c : Int}, rangeL a b c = some xs → ∀ x ∈ xs, flatD x = true := by
    intro a b c e x hx
    unfold rangeL at e
    split at e
    · cases e
      obtain ⟨j, _, rfl⟩ := List.mem_map.mp hx
      rfl
    · cases e
  unfold rangeItems at e
  split at e
  · exact go e
  · exact go e
  · exact go e
  · cases e
theorem news_ok {e : IE} {xs : List PyData} {P : Addr → Prop} (B : Base prog w K hB T Γ hG k) (hn : e.news = true) (hw : wf T env.scope.names sm e = true) (H : Here env pl sm σ hB P A k s) (he : ev Γ hG e σ = some (.list xs)) :
    wpAny (model prog w) A (eval e.ast env) (fun v s' => ∃ a vs, v = .ref a ∧ s.heap.get? a = none ∧ Kp s s' ∧ s'.heap.PlainList a vs.toArray ∧ RVs (But P a) s'.heap xs vs) NoE s := by
  have aft : ∀ {s₁ s₂ : Shared} {v : Value}, (∀ x ∈ xs, flatD x = true) → Kp s s₁ → GvN P s₁ xs v s₂ → ∃ a vs, v = .ref a ∧ s.heap.get? a = none ∧ Kp s s₂ ∧ s₂.heap.PlainList a vs.toArray ∧ RVs (But P a) s₂.heap xs vs := by
    rintro s₁ s₂ v hf kp ⟨a, vs, rfl, h0, k, hl, r⟩
    exact ⟨a, vs, rfl, (Out.kp (env := env) (own := fun _ => none) kp).back h0, kp.trans k, hl, rvs_flat hf r⟩
  cases e with
  | lst es p =>
    simp only [wf_e1, wf_e2, wf_e3, wf_e4, wf_e5, wf_e6, wf_e7, wf_e8, wf_e9, wf_e10, wf_e11, wf_e12, wf_e13, wf_e14, wf_e15, wf_e16, wf_e17, wf_e18, wf_e19, wf_e20, wf_e21] at hw
    simp only [ev_e0, ev_e1, ev_e2, ev_e3, ev_e4, ev_e5, ev_e6, ev_e7, ev_e8, ev_e9, ev_e10, ev_e11, ev_e12, ev_e13, ev_e14, ev_e15, ev_e16, ev_e17, ev_e18, ev_e19, ev_e20, ev_e21, ev_e22, ev_e24] at he
    split at he
    · cases he
    · rename_i xs' hx
      split at he
      · rename_i hl
        cases he
        refine List_ (wpAny_mono (evs_ok B es hw H hx p) (fun vs s₁ g₁ => ?_) fun _ _ f => f)
        refine wpAny_newObj_type ⟨_, vs, rfl, (Out.kp (env := env) (own := fun _ => none) g₁.1).back (get_size_none _), g₁.1.trans (Kp.push _ _), ⟨0, Heap.get?_push_size _ rfl⟩, (g₁.2.there fun a o p q => ⟨p, Nat.ne_of_lt (Heap.lt_size q)⟩).keeps (Ext.push _ _)⟩ ?_
        show vs.toArray.size ≤ sizeLine
        rw [List.size_toArray, g₁.2.length, sizeLine_eq]; unfold bigN at hl; omega
      · cases he
  | listOf px it p =>
    cases it with
    | range pr es pe =>
      simp only [wf_e1, wf_e2, wf_e3, wf_e4, wf_e5, wf_e6, wf_e7, wf_e8, wf_e9, wf_e10, wf_e11, wf_e12, wf_e13, wf_e14, wf_e15, wf_e16, wf_e17, wf_e18, wf_e19, wf_e20, wf_e21, wfit_e0, wfit_e1, wfit_e2, Bool.and_eq_true, beq_iff_eq, decide_eq_true_eq] at hw
      simp only [ev_e0, ev_e1, ev_e2, ev_e3, ev_e4, ev_e5, ev_e6, ev_e7, ev_e8, ev_e9, ev_e10, ev_e11, ev_e12, ev_e13, ev_e14, ev_e15, ev_e16, ev_e17, ev_e18, ev_e19, ev_e20, ev_e21, ev_e22, ev_e24] at he
      split at he
      · cases he
      · rename_i ds hds
        cases hr : rangeItems ds with
        | none => rw [hr] at he; cases he
        | some ys =>
          rw [hr] at he; cases he
          refine wpAny_Call_NameR (name_boot B H hw.1 (by decide +kernel) B.list boot_list (by decide +kernel) ?_)
          refine PyProof.Rows.callWith_type1 (args_cons (wpAny_mono (range_call (px := pr) B H hw.2.1.1 hw.2.2 (evs_ok B es hw.2.1.2 H hds pe) hr) (fun v s₁ g₁ => args_nil ?_) fun _ _ f => f) rfl) rfl rfl
          obtain ⟨k₁, r, a, b, c, t, u, t', rfl, h1, h2⟩ := g₁
          exact wpAny_mono (list_range_ok H.room.handled h1 h2) (fun _ _ g => aft (rangeItems_flat hr) k₁ g) fun _ _ f => f
    | e e0 =>
      simp only [wf_e1, wf_e2, wf_e3, wf_e4, wf_e5, wf_e6, wf_e7, wf_e8, wf_e9, wf_e10, wf_e11, wf_e12, wf_e13, wf_e14, wf_e15, wf_e16, wf_e17, wf_e18, wf_e19, wf_e20, wf_e21, wfit_e0, wfit_e1, wfit_e2, Bool.and_eq_true, beq_iff_eq] at hw
      simp only [ev_e0, ev_e1, ev_e2, ev_e3, ev_e4, ev_e5, ev_e6, ev_e7, ev_e8, ev_e9, ev_e10, ev_e11, ev_e12, ev_e13, ev_e14, ev_e15, ev_e16, ev_e17, ev_e18, ev_e19, ev_e20, ev_e21, ev_e22, ev_e24] at he
      split at he
      · rename_i x hx
        split at he
        · rename_i hl
          cases he
          refine wpAny_Call_NameR (name_boot B H hw.1 (by decide +kernel) B.list boot_list (by decide +kernel) ?_)
          refine PyProof.Rows.callWith_type1 (args_cons (wpAny_mono (ev_ok B e0 hw.2 H hx) (fun v s₁ g₁ => args_nil ?_) fun _ _ f => f) (star_ast e0 _)) (star_ast e0 _) rfl
          obtain ⟨t, rfl⟩ := g₁.2.inv_str
          exact wpAny_mono (list_str_ok H.room.handled hl) (fun _ _ g => aft (fun x hx => by obtain ⟨j, _, rfl⟩ := List.mem_map.mp hx; rfl) g₁.1 g) fun _ _ f => f
        · cases he
      · cases he
    | v e0 => cases he
  | meth m o ap es p =>
    cases m with
    | split =>
      simp only [wf_e1, wf_e2, wf_e3, wf_e4, wf_e5, wf_e6, wf_e7, wf_e8, wf_e9, wf_e10, wf_e11, wf_e12, wf_e13, wf_e14, wf_e15, wf_e16, wf_e17, wf_e18, wf_e19, wf_e20, wf_e21, Bool.and_eq_true, beq_iff_eq, decide_eq_true_eq] at hw
      obtain ⟨⟨⟨⟨h1, h2⟩, h3⟩, h4⟩, h5⟩ := hw
      simp only [ev_e0, ev_e1, ev_e2, ev_e3, ev_e4, ev_e5, ev_e6, ev_e7, ev_e8, ev_e9, ev_e10, ev_e11, ev_e12, ev_e13, ev_e14, ev_e15, ev_e16, ev_e17, ev_e18, ev_e19, ev_e20, ev_e21, ev_e22, ev_e24] at he
      split at he
      · cases he
      · rename_i x hx
        split at he
        · cases he
        · rename_i ys hys
          refine call_meth h4 h5 h3 (wpAny_mono (ev_ok B o h1 H hx) (fun v s₁ g₁ => ?_) fun _ _ f => f)
          obtain ⟨z, rfl⟩ := meth_str he
          obtain ⟨t, rfl⟩ := g₁.2.inv_str
          refine ⟨z, t, rfl, ?_⟩
          have H₁ := H.kp g₁.1
          cases es with
          | nil => cases hys; cases he
          | cons e0 er =>
            refine callWith_method1 (first := [.str z t]) (wpAny_mono (evsV_ok B (.cons e0 er) h2 H₁ hys p) (fun vs s₂ g₂ => ?_) fun _ _ f => f) (star_ast e0 _) (stars_plain p er)
            obtain ⟨y, rfl, c1, c2, c3, rfl⟩ := meth_split he
            obtain ⟨v, e1, r1⟩ := g₂.2.2 0 _ rfl
            obtain ⟨u, rfl⟩ := r1.inv_str
            have : vs = [.str y u] := by
              have := g₂.2.1
              exact one_of this e1
            subst this
            exact wpAny_mono (split_ok c1 c2 c3) (fun _ _ g => aft (fun x hx => by obtain ⟨j, _, rfl⟩ := List.mem_map.mp hx; rfl) (g₁.1.trans g₂.1) g) fun _ _ f => f
    | _ => cases hn
  | _ => cases hn
end
end Mine
end
section
open PySem PySem.W PySem.Calls PyProof.Rows
set_option Elab.async false
set_option maxRecDepth 100000
namespace Mine
section
variable {prog : Program} {w : World} {K : Frag} {hB hb : Heap} {T : Tab} {Γ : Nat → List PyData → Option PyData} {hG : Hs} {k : Nat}
  {env : Env} {pl : Nat → Place} {sm : List (Str × Nat)} {P₀ : Addr → Prop} {A : Around} {σ : Loc} {own : Nat → Option Addr} {s : Shared}
theorem asgO_ok {x : Str} {i : Nat} {px p : Pos} {e : IE} {xs : List PyData} (B : Base prog w K hB T Γ hG k) (hn : e.news = true) (hw : wf T env.scope.names sm e = true) (hx : sm.lookup x = some i) (R : Rel env pl sm hB hb P₀ A k σ own s) (he : ev Γ hG e σ = some (.list xs)) :
    wpAny (model prog w) A (exec (.Assign [.Name x px] e.ast p) env) (ExPost env pl sm hB hb P₀ A k own s .next (σ.put i (.ml xs))) NoE s := by
  refine wpAny_Assign_Name (wpAny_mono (news_ok B hn hw R.here he) (fun v s₁ g₁ => ?_) fun _ _ f => f) (by rw [swaps_eq R.kind]; cases e <;> first | rfl | cases hn)
  obtain ⟨a, vs, rfl, h0, kp, hp, r⟩ := g₁
  obtain ⟨R₁, g⟩ := R.adopt (i := i) kp h0 hp
  have hv : LVo (Pm env P₀ fun j => if j = i then some a else own j) (fun j => if j = i then some a else own j) s₁.heap i (.ml xs) (.ref a) := by
    refine ⟨a, vs, rfl, if_pos rfl, hp, r.mono fun b q => ⟨q.1.1, q.1.2.1, fun j z => ?_⟩⟩
    dsimp only at z
    by_cases e : j = i
    · rw [if_pos e] at z; cases z; exact q.2 rfl
    · rw [if_neg e] at z; exact q.1.2.2 j z
  refine wpAny_mono (R₁.put (prog := prog) (w := w) hx hv) (fun _ s₂ g₂ => ?_) fun _ _ f => f
  have := g₂.1
  rw [put_del] at this
  exact ⟨_, this, (Out.kp kp).trans g g₂.2, g, rfl⟩
theorem asg2_ok {x y : Str} {i j : Nat} {px py p : Pos} {e : IE} {d : PyData} (B : Base prog w K hB T Γ hG k) (hw : wf T env.scope.names sm e = true) (hx : sm.lookup x = some i) (hy : sm.lookup y = some j) (R : Rel env pl sm hB hb P₀ A k σ own s) (he : ev Γ hG e σ = some d) :
    wpAny (model prog w) A (exec (.Assign [.Name x px, .Name y py] e.ast p) env) (ExPost env pl sm hB hb P₀ A k own s .next ((σ.put i (.d d)).put j (.d d))) NoE s := by
  refine wpAny_Assign_two (wpAny_mono (ev_ok B e hw R.here he) (fun v s₁ g₁ => ?_) fun _ _ f => f) rfl rfl
  have R₁ := R.kp g₁.1
  refine wpAny_assign_Name (wpAny_mono (R₁.put (prog := prog) (w := w) hx (l := .d d) g₁.2) (fun _ s₂ g₂ => ?_) fun _ _ f => f)
  refine wpAny_assign_Name (wpAny_mono (g₂.1.put (prog := prog) (w := w) hy (l := .d d) (RV.but g₁.2 fun b o q e => g₂.2.2.1 b o e q.2.1 q.2.2)) (fun _ s₃ g₃ => ?_) fun _ _ f => f)
  exact .next g₃.1 (((Out.kp g₁.1).trans OwnGrow.refl g₂.2).trans OwnGrow.refl g₃.2)
theorem load_var {x : Str} {i : Nat} {v : Value} {Q : Value → Shared → Prop} {P : Addr → Prop} (H : Here env pl sm σ hB P A k s) (hx : sm.lookup x = some i) (hp : plainName x = true) (a : At s.heap (pl i) v) (q : Q v s) :
    wpAny (model prog w) A (loadName env x) Q NoE s := by
  rcases H.envOk x i hx with ⟨h1, h2⟩ | ⟨h1, c, h2, h3⟩
  · rw [h2] at a
    obtain ⟨m, n, e⟩ := a
    exact wpAny_loadName_local H.kind h1 n e q
  · rw [h3] at a
    rcases h1 with h1 | h1
    · exact wpAny_loadName_cell H.kind h1 h2 a q
    · exact wpAny_loadName_free H.kind h1 h2 a q (plainName_2 hp)
theorem inplace_ok {op : Operator} {x y d : PyData} {vx vy : Value} {P : Addr → Prop} (hx : RV P s.heap x vx) (hy : RV P s.heap y vy) (e : inplace op x y = some d) : wpAny (model prog w) A (inplaceOp op vx vy) (Gv P s d) NoE s := by
  unfold inplace at e
  split at e
  · cases e; obtain ⟨t, rfl⟩ := hx.inv_int; obtain ⟨u, rfl⟩ := hy.inv_int; exact PyProof.Rows.iadd_int Gv.int
  · cases e; obtain ⟨t, rfl⟩ := hx.inv_int; obtain ⟨u, rfl⟩ := hy.inv_int; exact PyProof.Rows.isub_int Gv.int
  · cases e
theorem aug_ok {x : Str} {i : Nat} {px p : Pos} {op : Operator} {e : IE} {a b d : PyData} (B : Base prog w K hB T Γ hG k) (hw : wf T env.scope.names sm e = true) (hx : sm.lookup x = some i) (hp : plainName x = true) (R : Rel env pl sm hB hb P₀ A k σ own s) (ha : σ.at i = some (.d a)) (he : ev Γ hG e σ = some b)
    (hi : inplace op a b = some d) : wpAny (model prog w) A (exec (.AugAssign (.Name x px) op e.ast p) env) (ExPost env pl sm hB hb P₀ A k own s .next (σ.put i (.d d))) NoE s := by
  obtain ⟨v, q1, q2⟩ := R.slots x i _ hx ha
  refine wpAny_AugAssign_Name (load_var R.here hx hp q1 (wpAny_mono (ev_ok B e hw R.here he) (fun u s₁ g₁ => ?_) fun _ _ f => f))
  have R₁ := R.kp g₁.1
  have q2' : RV (Pm env P₀ own) s.heap a v := q2
  refine wpAny_mono (inplace_ok (q2'.keeps g₁.1.ext) g₁.2 hi) (fun r s₂ g₂ => ?_) fun _ _ f => f
  have R₂ := R₁.kp g₂.1
  refine wpAny_mono (R₂.put (prog := prog) (w := w) hx (l := .d d) g₂.2) (fun _ s₃ g₃ => ?_) fun _ _ f => f
  exact .next g₃.1 ((Out.kp (g₁.1.trans g₂.1)).trans OwnGrow.refl g₃.2)
theorem ret_ok {p : Pos} {e : IE} {d : PyData} (B : Base prog w K hB T Γ hG k) (hw : wf T env.scope.names sm e = true) (R : Rel env pl sm hB hb P₀ A k σ own s) (he : ev Γ hG e σ = some d) :
    wpAny (model prog w) A (exec (.Return (some e.ast) p) env) (ExPost env pl sm hB hb P₀ A k own s (.ret d) σ) NoE s := by
  refine wpAny_Return_some (wpAny_mono (ev_ok B e hw R.here he) (fun v s₁ g₁ => ?_) fun _ _ f => f)
  exact ⟨own, R.kp g₁.1, Out.kp g₁.1, OwnGrow.refl, v, rfl, g₁.2⟩
theorem asrt_ok {p : Pos} {e : IE} (B : Base prog w K hB T Γ hG k) (hw : wf T env.scope.names sm e = true) (R : Rel env pl sm hB hb P₀ A k σ own s) (he : (view e σ (ev Γ hG e σ)).bind truth = some true) :
    wpAny (model prog w) A (exec (.Assert e.ast none p) env) (ExPost env pl sm hB hb P₀ A k own s .next σ) NoE s := by
  refine wpAny_Assert_holds (wpAny_mono (tst_ok B e hw R.here he (fun _ => ev_ok B e hw R.here)) (fun b s₁ g₁ => ?_) fun _ _ f => f)
  exact ⟨g₁.1, .next (R.kp g₁.2) (Out.kp g₁.2)⟩
theorem app_ok {x : Str} {i : Nat} {px ap pc p : Pos} {e : IE} {xs : List PyData} {d : PyData} (B : Base prog w K hB T Γ hG k) (hw : wf T env.scope.names sm e = true) (hx : sm.lookup x = some i) (hp : plainName x = true) (hline : ap.endLine = pc.line) (R : Rel env pl sm hB hb P₀ A k σ own s) (ha : σ.at i = some (.ml xs)) (he : ev Γ hG e σ = some d)
    (hl : xs.length ≤ bigN) : wpAny (model prog w) A (exec (.Expr (.Call (.Attribute (.Name x px) "append" ap) [e.ast] [] pc) p) env) (ExPost env pl sm hB hb P₀ A k own s .next (σ.put i (.ml (xs ++ [d])))) NoE s := by
  obtain ⟨v, q1, a, vs, rfl, ho, hpl, hr⟩ := R.slots x i _ hx ha
  have hi : interactive env = false := by unfold interactive; rw [R.kind]; rfl
  refine wpAny_Expr ?_ hi rfl
  refine wpAny_Call_append rfl ?_ (by simp [hline]) ?_ (name_var R.here hx hp q1 ⟨a, vs.toArray, rfl, ?_, ?_⟩)
  · rw [show starEach [e.ast] env = (false, eval e.ast env) :: starEach [] env from star_ast e []]; rfl
  · rw [show starEach [e.ast] env = (false, eval e.ast env) :: starEach [] env from star_ast e []]; rfl
  · obtain ⟨n, h⟩ := hpl; exact ⟨_, n, h, rfl, rfl, rfl⟩
  · refine wpAny_mono (ev_ok B e hw R.here he) (fun u s₁ g₁ => ?_) fun _ _ f => f
    have R₁ := R.kp g₁.1
    have hpl₁ : s₁.heap.PlainList a vs.toArray := by obtain ⟨n, h⟩ := hpl; exact ⟨n, g₁.1.ext _ _ h⟩
    refine wpAny_list_append_plain hpl₁ (fun h' hp' hs' => ?_) (by rw [List.size_toArray, hr.length, sizeLine_eq]; unfold bigN at hl; omega)
    obtain ⟨R₂, o₂⟩ := R₁.chg (tk := s₁.toks) hx ho (q1.ext g₁.1.ext) hs' (ws := vs ++ [u]) (xs := xs ++ [d]) (by simpa using hp') ((hr.keeps g₁.1.ext).append (RVs.cons g₁.2 RVs.nil))
    exact .next R₂ ((Out.kp g₁.1).trans OwnGrow.refl o₂)
end
end Mine
end
section
open PySem PySem.W PySem.Calls PyProof.Rows
set_option Elab.async false
set_option maxRecDepth 100000
namespace Mine
section
variable {prog : Program} {w : World} {K : Frag} {hB hb : Heap} {T : Tab} {Γ : Nat → List PyData → Option PyData} {hG : Hs} {k : Nat}
  {env : Env} {pl : Nat → Place} {sm : List (Str × Nat)} {P₀ : Addr → Prop} {A : Around} {σ : Loc} {own : Nat → Option Addr} {s : Shared}
theorem Rel.puts : ∀ (xs : List (Str × Nat × Pos)) (ds : List PyData) (vs : List Value) (σ : Loc) (s : Shared), Rel env pl sm hB hb P₀ A k σ own s → xs.length = ds.length → (∀ x ∈ xs, sm.lookup x.1 = some x.2.1) → RVs (Pm env P₀ own) s.heap ds vs →
    wpAny (model prog w) A (assignInOrder (xs.map fun x => assign (.Name x.1 x.2.2) env) vs) (fun _ s' => Rel env pl sm hB hb P₀ A k (putMany (xs.map fun x => (x.1, x.2.1)) ds σ) own s' ∧ Out env own s s') NoE s
  | [], [], vs, σ, s, R, _, _, r => by rw [r.inv_nil]; exact wpAny_pure ⟨R, Out.refl _⟩
  | x :: xs, d :: ds, vs, σ, s, R, hl, hx, r => by
    obtain ⟨v, vs', rfl, r1, r2⟩ := r.inv_cons
    refine wpAny_bind (wpAny_holding (wpAny_assign_Name (wpAny_mono (R.put (prog := prog) (w := w) (hx x (List.mem_cons_self ..)) (l := .d d) r1) (fun _ s₂ g₂ => ?_) fun _ _ f => f)))
    obtain ⟨R₂, o₂⟩ := g₂
    have r2' : RVs (Pm env P₀ own) s₂.heap ds vs' := r2.but fun b o p q => o₂.2.1 b o q p.2.1 p.2.2
    exact wpAny_mono (Rel.puts xs ds vs' _ s₂ R₂ (by simpa using hl) (fun y hy => hx y (List.mem_cons_of_mem _ hy)) r2') (fun _ s₃ g₃ => ⟨g₃.1, o₂.trans OwnGrow.refl g₃.2⟩) fun _ _ f => f
  | [], _ :: _, _, _, _, _, hl, _, _ => by simp at hl
  | _ :: _, [], _, _, _, _, hl, _, _ => by simp at hl
theorem Rel.assignT {t : Tgt} {d : PyData} {v : Value} {σ' : Loc} (R : Rel env pl sm hB hb P₀ A k σ own s) (ht : ∀ x ∈ t.names, sm.lookup x.1 = some x.2) (hv : RV (Pm env P₀ own) s.heap d v) (hbd : t.bind d σ = some σ') :
    wpAny (model prog w) A (assign t.ast env v) (fun _ s' => Rel env pl sm hB hb P₀ A k σ' own s' ∧ Out env own s s') NoE s := by
  cases t with
  | one x i p =>
    cases hbd
    exact wpAny_assign_Name (R.put (prog := prog) (w := w) (ht (x, i) (by simp [Tgt.names])) (l := .d d) hv)
  | tup xs kk p =>
    cases d with
    | tuple es =>
      simp only [Tgt.bind, Tgt.vals] at hbd
      split at hbd
      · rename_i hl
        cases hbd
        obtain ⟨a, vs, rfl, _, hta, hr⟩ := hv.inv_tuple
        have hlen := hr.length
        have e1 : (xs.map fun x => ((false, assign (.Name x.1 x.2.2) env) : Bool × (Value → Sem Unit))).findIdx? (·.1) = none := by
          rw [List.findIdx?_eq_none_iff]; intro y hy; obtain ⟨z, _, rfl⟩ := List.mem_map.mp hy; rfl
        refine assign_Tuple_tuple R.room.handled hta (by rw [assignEach_names]; simp [hlen, hl]) (by rw [assignEach_names]; exact e1) fun h₀ he₀ => ?_
        rw [assignEach_names, List.map_map]
        have kp : Kp s { s with heap := h₀ } := ⟨h₀, s.toks, rfl, fun b o e => he₀ b o (Nat.ne_of_lt (Heap.lt_size e)) e⟩
        exact wpAny_mono (Rel.puts (prog := prog) (w := w) xs es vs σ _ (R.kp kp) (by rw [hl]) (fun y hy => ht (y.1, y.2.1) (List.mem_map.mpr ⟨y, hy, rfl⟩)) (hr.keeps kp.ext)) (fun _ s₃ g₃ => ⟨g₃.1, (Out.kp kp).trans OwnGrow.refl g₃.2⟩) fun _ _ f => f
      · cases hbd
    | _ => cases hbd
theorem hnew_ok {x : Str} {i : Nat} {px pf pc p : Pos} (B : Base prog w K hB T Γ hG k) (hx : sm.lookup x = some i) (hn : env.scope.names.lookup ("Headers" : Str) = some .globalImplicit) (R : Rel env pl sm hB hb P₀ A k σ own s) :
    wpAny (model prog w) A (exec (.Assign [.Name x px] (.Call (.Name "Headers" pf) [] [] pc) p) env) (ExPost env pl sm hB hb P₀ A k own s .next (σ.put i (.hd hG.cls none []))) NoE s := by
  have H := R.here
  have X : K.In s.heap := B.kin.keeps H.base
  refine wpAny_Assign_Name (wpAny_Call_NameR (name_glob B H hn (by decide +kernel) B.hd.name (callWith_K0 X B.hd.keep ?_))) rfl
  refine wpAny_mono (B.hd.new A s H.base (H.room.le B.hd.pos)) (fun v s₁ g₁ => ?_) fun _ _ f => f
  obtain ⟨a, kp, h0, hp, hi⟩ := g₁
  obtain ⟨R₁, g⟩ := R.adopt (i := i) kp h0 hp
  have hv : LVo (Pm env P₀ fun j => if j = i then some a else own j) (fun j => if j = i then some a else own j) s₁.heap i (.hd hG.cls none []) v := by
    refine ⟨a, [], fun x q => (nomatch q), hi.map fun b o q z => ⟨⟨R.fresh b q.1, R.mut_there q.1, fun j z => ?_⟩, z⟩, if_pos rfl, hp, RVs.nil⟩
    dsimp only at z
    by_cases e : j = i
    · rw [if_pos e] at z; cases z; exact q.2 rfl
    · rw [if_neg e] at z
      obtain ⟨_, _, vs, n, h⟩ := R.ownIn j b z; rw [q.1] at h; cases h
  refine wpAny_mono (R₁.put (prog := prog) (w := w) hx hv) (fun _ s₂ g₂ => ?_) fun _ _ f => f
  have := g₂.1
  rw [put_del] at this
  exact ⟨_, this, (Out.kp kp).trans g g₂.2, g, rfl⟩
theorem hset_ok {ad : Option Nat} {m x : Str} {i : Nat} {px ap pc p : Pos} {es : IEs} {kvs xs : List PyData} {r : List PyData × PyData} (B : Base prog w K hB T Γ hG k) (hw : wfs T env.scope.names sm es = true) (hx : sm.lookup x = some i) (hp : plainName x = true) (hline : ap.endLine = pc.line) (hl : es.len < 20) (R : Rel env pl sm hB hb P₀ A k σ own s)
    (ha : σ.at i = some (.hd hG.cls ad kvs)) (he : evs Γ hG es σ = some xs) (hm : hG.set m kvs xs = some r) :
    wpAny (model prog w) A (exec (.Expr (.Call (.Attribute (.Name x px) m ap) es.ast [] pc) p) env) (ExPost env pl sm hB hb P₀ A k own s .next (σ.put i (.hd hG.cls ad r.1))) NoE s := by
  obtain ⟨v, q1, a, ws, hz, hi, ho, hpl, hr⟩ := R.slots x i _ hx ha
  obtain ⟨f, hf, hc⟩ := B.hd.set m kvs xs r hm
  have hin : interactive env = false := by unfold interactive; rw [R.kind]; rfl
  refine wpAny_Expr_any ?_ hin rfl
  refine hcall_at B R.here hx hp hline hl q1 hi hf (evs_ok B es hw R.here he pc) (fun q => by subst q; cases he; rfl) fun s₁ vs k₁ rv => ?_
  have R₁ := R.kp k₁
  have hpl₁ : s₁.heap.PlainList a ws.toArray := by obtain ⟨n, h⟩ := hpl; exact ⟨n, k₁.ext _ _ h⟩
  have hBa : hB.get? a = none := by
    cases q : hB.get? a with
    | none => rfl
    | some o => have := R.base a o q; rw [(R.ownIn i a ho).1] at this; cases this
  have hi₁ := hi.map (P' := Pm env P₀ own) (h' := s₁.heap) fun b o q z => ⟨q, k₁.ext b o z⟩
  refine wpAny_mono (hc A s₁ (Pm env P₀ own) v a ws kvs vs xs r.1 r.2 (R₁.base.trans R₁.keep) R₁.room R₁.freshP hi₁ (fun q => q.2.2 i ho) hBa hpl₁ (hr.keeps k₁.ext) rv hm) (fun rt s₂ g₂ => ?_) fun _ _ f => f
  obtain ⟨h', tk, ws', rfl, hk, hp', hr', _⟩ := g₂
  obtain ⟨R₂, o₂⟩ := R₁.chgL (tk := tk) hx ho (q1.ext k₁.ext) hk ⟨_, hp'⟩ (l' := .hd hG.cls ad r.1) ⟨a, ws', hz, hi₁.map fun b o q z => ⟨q, hk b o (fun e => q.2.2 i (e ▸ ho)) z⟩, ho, hp', hr'⟩
  exact .next R₂ ((Out.kp k₁).trans OwnGrow.refl o₂)
theorem happ_ok {ad : Option Nat} {x : Str} {i : Nat} {px pa ap pc p : Pos} {e : IE} {kvs : List PyData} {d : PyData} (B : Base prog w K hB T Γ hG k) (hw : wf T env.scope.names sm e = true) (hx : sm.lookup x = some i) (hp : plainName x = true) (hline : ap.endLine = pc.line) (R : Rel env pl sm hB hb P₀ A k σ own s)
    (ha : σ.at i = some (.hd hG.cls ad kvs)) (he : ev Γ hG e σ = some d) (hl : kvs.length ≤ bigN) :
    wpAny (model prog w) A (exec (.Expr (.Call (.Attribute (.Attribute (.Name x px) "_headers" pa) "append" ap) [e.ast] [] pc) p) env) (ExPost env pl sm hB hb P₀ A k own s .next (σ.put i (.hd hG.cls ad (kvs ++ [d])))) NoE s := by
  obtain ⟨v, q1, a, ws, hz, hi, ho, hpl, hr⟩ := R.slots x i _ hx ha
  have hin : interactive env = false := by unfold interactive; rw [R.kind]; rfl
  refine wpAny_Expr ?_ hin rfl
  refine wpAny_Call_append rfl ?_ (by simp [hline]) ?_ (hlist_ok B R.here hx hp q1 hi ⟨a, ws.toArray, rfl, ?_, ?_⟩)
  · rw [show starEach [e.ast] env = (false, eval e.ast env) :: starEach [] env from star_ast e []]; rfl
  · rw [show starEach [e.ast] env = (false, eval e.ast env) :: starEach [] env from star_ast e []]; rfl
  · obtain ⟨n, h⟩ := hpl; exact ⟨_, n, h, rfl, rfl, rfl⟩
  · have k₀ : Kp s { s with toks := s.toks + 1 } := Kp.toks _ _
    have R₀ := R.kp k₀
    refine wpAny_mono (ev_ok B e hw R₀.here he) (fun u s₁ g₁ => ?_) fun _ _ f => f
    have R₁ := R₀.kp g₁.1
    have kk := k₀.trans g₁.1
    have hpl₁ : s₁.heap.PlainList a ws.toArray := by obtain ⟨n, h⟩ := hpl; exact ⟨n, kk.ext _ _ h⟩
    refine wpAny_list_append_plain hpl₁ (fun h' hp' hs' => ?_) (by rw [List.size_toArray, hr.length, sizeLine_eq]; unfold bigN at hl; omega)
    have hk : ∀ b o, b ≠ a → s₁.heap.get? b = some o → h'.get? b = some o := fun b o h1 h2 => hs'.extBut b o h1 h2
    have eP : ExtP (Pm env P₀ own) s₁.heap h' := fun b o q z => hk b o (fun e => q.2.2 i (e ▸ ho)) z
    obtain ⟨R₂, o₂⟩ := R₁.chgL (tk := s₁.toks) hx ho (q1.ext kk.ext) hk ⟨_, hp'⟩ (l' := .hd hG.cls ad (kvs ++ [d]))
      ⟨a, ws ++ [u], hz, hi.map fun b o q z => ⟨q, eP b o q (kk.ext b o z)⟩, ho, by simpa using hp', ((hr.keeps kk.ext).append (RVs.cons g₁.2 RVs.nil)).but eP⟩
    exact .next R₂ ((Out.kp kk).trans OwnGrow.refl o₂)
theorem codeAny_forLoopT {R : Result → Shared → Prop} {target it body orelse env} (I : Nat → Shared → Prop)
    (turn : ∀ n s, I n s → wpAny (model prog w) A (pyNext it) (fun r s₁ => match r with
      | none => wpAny (model prog w) A (execs orelse env) (fun f s₃ => R (.ok f) s₃) NoE s₁
      | some v => wpAny (model prog w) A (letOwnedTupleGo target it v) (fun _ s₁' => wpAny (model prog w) A (assign target env v) (fun _ s₂ => wpAny (model prog w) A (execs body env) (fun f s₃ => match f with
          | .next | .cont => ∃ m, m < n ∧ I m s₃
          | .brk => R (.ok .next) s₃
          | .ret v => R (.ok (.ret v)) s₃) NoE s₂) NoE s₁') NoE s₁) NoE s)
    (n : Nat) (h : I n s) : codeAny (model prog w) A (.forLoop target it body orelse env) R s := by
  refine codeAny_loop' rfl I (fun n s hI => ?_) n h
  show wpAny _ _ ((forTurn target it body orelse env).onRaise (fun x => do noteFrame x env; theTreesLotGoes x)) _ _ s
  refine wpAny_noted ?_
  simp only [forTurn]
  refine wpAny_bind (wpAny_standAt (wpAny_bind (wpAny_onRaise (wpAny_mono (turn n s hI) (fun r s₁ h₁ => ?_) fun _ _ h' => h'.elim))))
  cases r with
  | none => exact wpAny_pure (.inr ⟨rfl, codeAny_block (wp_noE h₁)⟩)
  | some v =>
    refine wpAny_bind (wp_noE (wpAny_mono h₁ (fun _ s₁' h₁' => ?_) fun _ _ h' => h'))
    refine wpAny_bind (wp_noE (wpAny_mono h₁' (fun _ s₂ h₂ => wpAny_bind (wp_noE (wpAny_mono h₂ (fun f s₃ h₃ => ?_) fun _ _ h' => h'))) fun _ _ h' => h'))
    cases f with
    | next => exact wpAny_pure (.inl ⟨rfl, h₃⟩)
    | cont => exact wpAny_pure (.inl ⟨rfl, h₃⟩)
    | brk => exact wpAny_pure h₃
    | ret v => exact wpAny_pure h₃
theorem forE_ok {x : Str} {i : Nat} {px ap pc p : Pos} {tgt : Expr} {body : List Stmt} (hx : sm.lookup x = some i) (hp : plainName x = true) (hline : ap.endLine = pc.line) (R : Rel env pl sm hB hb P₀ A k σ own s) (ha : σ.at i = some .ed) :
    wpAny (model prog w) A (exec (.For tgt (.Call (.Attribute (.Name x px) "items" ap) [] [] pc) body [] p) env) (ExPost env pl sm hB hb P₀ A k own s .next σ) NoE s := by
  obtain ⟨v, q1, b, rfl, hsys, hP, hb'⟩ := R.slots x i _ hx ha
  have hdict : s.heap.DictAt (strKind prog w) b [] 0 := ⟨_, #[], hb', ⟨rfl, rfl, rfl⟩, rfl, fun _ h => by simp at h, .nil, by simp⟩
  refine wpAny_For (wpAny_Call_method_lateS rfl rfl (by simp [hline]) (name_var R.here hx hp q1 ⟨"dict", "dict.items", PySem.F.plainAttrs_dict, PySem.F.slot_dict_items, PySem.F.type_dict_items, ⟨_, hb', rfl⟩, fun a q => by cases q; exact ⟨_, hb', rfl⟩, callWith_method0 ?_⟩)) (fun _ => rfl)
  refine call_meetsIn PySem.F.slot_dict_items ⟨_, hb', rfl⟩ PySem.F.entry_dict_items (PySem.F.args_dict_items_1 _) (meets_dict_items (strKind prog w) b hsys) ⟨⟨[], hdict.dictOf⟩, ?_⟩
  have k₁ := Kp.push s { cls := .type "dict_items", data := .fields #[.ref b] }
  have hd₁ : (s.heap.push { cls := .type "dict_items", data := .fields #[.ref b] }).DictAt (strKind prog w) b [] 0 := ⟨_, #[], k₁.ext _ _ hb', ⟨rfl, rfl, rfl⟩, rfl, fun _ h => by simp at h, .nil, by simp⟩
  refine wpAny_pyIter_items (s := { s with heap := s.heap.push { cls := .type "dict_items", data := .fields #[.ref b] } }) (knd := strKind prog w) (kvs := []) (ep := 0) ⟨_, Heap.get?_push_size _ rfl, rfl, rfl⟩ hd₁ ?_
  dsimp only
  generalize hH : s.heap.push { cls := .type "dict_items", data := .fields #[.ref b] } = h₁ at k₁ hd₁ ⊢
  have k₂ := Kp.push ({ s with heap := h₁ } : Shared) { cls := .type "dict_itemiterator", data := .fields #[.none, .bool false, .ref b, .int 0 0, .int (([] : List (Str × Value)).length : Nat) 0, .int (0 : Nat) 0, .none, .none] }
  have kk := k₁.trans k₂
  refine codeAny_forLoopT (fun n s' => n = 0 ∧ s' = _) ?_ 0 ⟨rfl, rfl⟩
  rintro n s₂ ⟨rfl, rfl⟩
  refine wpAny_pyNext_items_end (knd := strKind prog w) (kvs := []) R.room.handled (Heap.get?_push_size _ rfl) (⟨_, #[], kk.ext _ _ hb', ⟨rfl, rfl, rfl⟩, rfl, fun _ h => by simp at h, .nil, by simp⟩) rfl fun h' he' => ?_
  refine wpAny_execs_nil ?_
  have hk : Kp s { s with heap := h' } := ⟨h', s.toks, rfl, fun b' o e => he' b' o (Nat.ne_of_lt (Heap.lt_size (k₁.ext b' o e))) (kk.ext b' o e)⟩
  exact .next (R.kp hk) (Out.kp hk)
end
end Mine
end
section
open PySem PySem.W PySem.Calls PyProof.Rows
set_option Elab.async false
set_option maxRecDepth 100000
namespace Mine
theorem RVs.set {P : Addr → Prop} {h : Heap} : ∀ {xs : List PyData} {vs : List Value} {d : PyData} {v : Value} (n : Nat), RVs P h xs vs → RV P h d v → RVs P h (xs.set n d) (vs.set n v)
  | [], vs, d, v, n, r, _ => by rw [r.inv_nil]; exact RVs.nil
  | x :: xs, vs, d, v, n, r, q => by
    obtain ⟨u, r', rfl, a, b⟩ := r.inv_cons
    cases n with
    | zero => exact RVs.cons q b
    | succ n => exact RVs.cons a (RVs.set n b q)
theorem RVs.erase {P : Addr → Prop} {h : Heap} : ∀ {xs : List PyData} {vs : List Value} (n : Nat), RVs P h xs vs → RVs P h (xs.eraseIdx n) (vs.eraseIdx n)
  | [], vs, n, r => by rw [r.inv_nil]; exact RVs.nil
  | x :: xs, vs, n, r => by
    obtain ⟨u, r', rfl, a, b⟩ := r.inv_cons
    cases n with
    | zero => exact b
    | succ n => exact RVs.cons a (RVs.erase n b)
section
variable {prog : Program} {w : World} {K : Frag} {hB hb : Heap} {T : Tab} {Γ : Nat → List PyData → Option PyData} {hG : Hs} {k : Nat}
  {env : Env} {pl : Nat → Place} {sm : List (Str × Nat)} {P₀ : Addr → Prop} {A : Around} {σ : Loc} {own : Nat → Option Addr} {s : Shared}
theorem seti_ok {x : Str} {i : Nat} {px ps p : Pos} {e ix : IE} {xs : List PyData} {d : PyData} {n : Int} (B : Base prog w K hB T Γ hG k) (hw : wf T env.scope.names sm e = true) (hwi : wf T env.scope.names sm ix = true) (hx : sm.lookup x = some i) (hp : plainName x = true) (R : Rel env pl sm hB hb P₀ A k σ own s) (ha : σ.at i = some (.ml xs)) (he : ev Γ hG e σ = some d) (hi : ev Γ hG ix σ = some (.int n))
    (h0 : 0 ≤ n) (h1 : n < xs.length) (hl : xs.length ≤ bigN) : wpAny (model prog w) A (exec (.Assign [.Subscript (.Name x px) ix.ast ps] e.ast p) env) (ExPost env pl sm hB hb P₀ A k own s .next (σ.put i (.ml (xs.set n.toNat d)))) NoE s := by
  refine wpAny_Assign_Subscript (wpAny_mono (ev_ok B e hw R.here he) (fun v s₁ g₁ => ?_) fun _ _ f => f) (by cases e <;> rfl)
  have R₁ := R.kp g₁.1
  obtain ⟨_, q1, a, vs, rfl, ho, hpl, hr⟩ := R₁.slots x i _ hx ha
  refine name_var R₁.here hx hp q1 (wpAny_mono (ev_ok B ix hwi R₁.here hi) (fun u s₂ g₂ => ?_) fun _ _ f => f)
  obtain ⟨t, rfl⟩ := g₂.2.inv_int
  have R₂ := R₁.kp g₂.1
  obtain ⟨c, hc⟩ := hpl
  have hc' := g₂.1.ext _ _ hc
  have hlen := hr.length
  refine ki_setAt (n := c) hc' h0 (by unfold bigN at hl; omega) (by rw [List.size_toArray, hlen]; omega) ?_
  have hu : IsL (s₂.heap.update a (Obj.mapSeq (·.setIfInBounds n.toNat v))) a _ _ := IsL.update (n := c) hc' (·.setIfInBounds n.toNat v)
  obtain ⟨R₃, o₃⟩ := R₂.chg (tk := s₂.toks) hx ho (q1.ext g₂.1.ext) (Heap.SameBut.update ..) (ws := vs.set n.toNat v) (xs := xs.set n.toNat d) ⟨_, by simpa using hu⟩ ((hr.keeps g₂.1.ext).set _ (g₁.2.keeps g₂.1.ext))
  exact .next R₃ ((Out.kp (g₁.1.trans g₂.1)).trans OwnGrow.refl o₃)
theorem deli_ok {x : Str} {i : Nat} {px ps p : Pos} {ix : IE} {xs : List PyData} {n : Int} {j : Nat} (B : Base prog w K hB T Γ hG k) (hwi : wf T env.scope.names sm ix = true) (hx : sm.lookup x = some i) (hp : plainName x = true) (R : Rel env pl sm hB hb P₀ A k σ own s) (ha : σ.at i = some (.ml xs)) (hi : ev Γ hG ix σ = some (.int n))
    (hj : seqIndex? n xs.length = some j) (hn : smallI n = true) (hl : xs.length ≤ bigN) : wpAny (model prog w) A (exec (.Delete [.Subscript (.Name x px) ix.ast ps] p) env) (ExPost env pl sm hB hb P₀ A k own s .next (σ.put i (.ml (xs.eraseIdx j)))) NoE s := by
  obtain ⟨_, q1, a, vs, rfl, ho, hpl, hr⟩ := R.slots x i _ hx ha
  refine wpAny_Delete (wpAny_deleteEach_cons ?_)
  rw [arm_delete_Subscript]
  refine wpAny_bind (name_var R.here hx hp q1 (wpAny_bind (wpAny_holding (wpAny_mono (ev_ok B ix hwi R.here hi) (fun u s₁ g₁ => ?_) fun _ _ f => f))))
  obtain ⟨t, rfl⟩ := g₁.2.inv_int
  have R₁ := R.kp g₁.1
  have hpl₁ : s₁.heap.PlainList a vs.toArray := by obtain ⟨n, h⟩ := hpl; exact ⟨n, g₁.1.ext _ _ h⟩
  have hlen := hr.length
  refine wpAny_bind (wpAny_standAt (wpAny_bind (wpAny_holding ?_)))
  refine wpAny_delItem_plain hpl₁ ?_ (by rw [List.size_toArray, hlen]; exact hj) (fun h' hp' hs' => wpAny_release ?_) (by rw [List.size_toArray, hlen, sizeLine_eq]; unfold bigN at hl; omega)
  · simp only [smallI, Bool.and_eq_true, decide_eq_true_eq] at hn
    simp [Builtin.List.listFitsIndex]
    omega
  · refine wpAny_pure ?_
    obtain ⟨R₃, o₃⟩ := R₁.chg (tk := s₁.toks) hx ho (q1.ext g₁.1.ext) hs' (ws := vs.eraseIdx j) (xs := xs.eraseIdx j) (by simpa using hp') ((hr.keeps g₁.1.ext).erase _)
    exact .next R₃ ((Out.kp g₁.1).trans OwnGrow.refl o₃)
theorem swp_ok {x y : Str} {i j : Nat} {px py pt pv p : Pos} {kt kv : Nat} {a b : IE} {d1 d2 : PyData} (B : Base prog w K hB T Γ hG k) (hwa : wf T env.scope.names sm a = true) (hwb : wf T env.scope.names sm b = true) (hx : sm.lookup x = some i) (hy : sm.lookup y = some j) (hxl : env.scope.names.lookup x = some .local) (hyl : env.scope.names.lookup y = some .local)
    (hline : px.line = py.line) (hne : x ≠ y) (hf : (foldedForSure 8 a.ast && foldedForSure 8 b.ast) = false) (hc : (constantsAlone 8 a.ast && constantsAlone 8 b.ast) = false) (R : Rel env pl sm hB hb P₀ A k σ own s) (h1 : ev Γ hG a σ = some d1) (h2 : ev Γ hG b σ = some d2) :
    wpAny (model prog w) A (exec (.Assign [.Tuple [.Name x px, .Name y py] kt pt] (.Tuple [a.ast, b.ast] kv pv) p) env) (ExPost env pl sm hB hb P₀ A k own s .next ((σ.put j (.d d2)).put i (.d d1))) NoE s := by
  have hsw : swappedStores [.Tuple [.Name x px, .Name y py] kt pt] (.Tuple [a.ast, b.ast] kv pv) env = pure (some [x, y]) := by
    have hb := blockKind_fn R.kind
    have e1 : (env.kindOf x == some NameKind.local) = true := by unfold Env.kindOf; rw [hxl]; rfl
    have e2 : (env.kindOf y == some NameKind.local) = true := by unfold Env.kindOf; rw [hyl]; rfl
    have star : ∀ e : IE, PySem.swappedStores.match_5 (fun _ => Bool) e.ast (fun _ _ => true) (fun _ => false) = false := fun e => by cases e <;> rfl
    have e3 := star a
    have e4 := star b
    have hbk : (env.blockKind != .function) = false := by simp [bne, hb]
    have hd : ([x, y].eraseDups.length != 2) = false := by
      have q : (y == x) = false := by simpa using Ne.symm hne
      simp [List.eraseDups_cons, q]
    have hnm : [Expr.Name x px, Expr.Name y py].filterMap (fun e => PySem.swappedStores.match_8 (fun _ => Option Str) e (fun id pos => if (env.kindOf id == some NameKind.local && pos.line == px.line) = true then some id else none) fun _ => none) = [x, y] := by
      rw [List.filterMap_cons_some (b := x) (by show (if _ then _ else _) = _; rw [e1]; simp), List.filterMap_cons_some (b := y) (by show (if _ then _ else _) = _; rw [e2]; simp [hline]), List.filterMap_nil]
    unfold swappedStores
    dsimp only
    rw [if_neg (by simp [hbk]), if_neg (by simp [e3, e4])]
    have hl0 : (Option.map (fun (e : Expr) => e.pos.line) [Expr.Name x px, Expr.Name y py].head?).getD 0 = px.line := rfl
    rw [hl0, hnm, if_neg (by simpa using hd), if_neg (by simpa using hf), if_neg (by simpa using hc)]
  refine Assign_Tuple_swapped (names := [x, y]) ?_ rfl hsw
  have HH := R.here
  refine Tuple_ (wpAny_mono (evs_ok B (.cons a (.cons b .nil)) (by simp [wfs_e0, wfs_e1, hwa, hwb]) HH (hG := hG) (ds := [d1, d2]) (by simp only [evs_e0, evs_e1, h1, h2]) pv) (fun vs s₁ g₁ => ?_) fun _ _ f => f)
  obtain ⟨v1, r1, rfl, q1, q2⟩ := g₁.2.inv_cons
  obtain ⟨v2, r2, rfl, q3, q4⟩ := q2.inv_cons
  rw [q4.inv_nil]
  have R₁ := R.kp g₁.1
  refine wpAny_newObj_type ?_ (by show 2 ≤ sizeLine; rw [sizeLine_eq]; omega)
  have k2 := Kp.push s₁ { cls := .type "tuple", data := .seq [v1, v2].toArray }
  refine wpAny_unpackItems_tuple (items := #[v1, v2]) R.room.handled ⟨_, Heap.get?_push_size _ rfl, rfl, 0, rfl⟩ fun h' he' => ?_
  have k3 : Kp s₁ { s₁ with heap := h' } := ⟨h', s₁.toks, rfl, fun b o e => he' b o (Nat.ne_of_lt (Heap.lt_size (k2.ext b o e))) (k2.ext b o e)⟩
  have R₃ := R₁.kp k3
  have o₃ : Out env own s { s₁ with heap := h' } := Out.kp (g₁.1.trans k3)
  show wpAny _ _ (do holding [v1] (bindName env y v2); do holding [] (bindName env x v1); pure ()) _ _ _
  refine wpAny_bind (wpAny_holding (wpAny_bindName (wpAny_mono (R₃.put (prog := prog) (w := w) hy (l := .d d2) (q3.keeps k3.ext)) (fun _ s₄ g₄ => ?_) fun _ _ f => f)))
  have q1' : RV (Pm env P₀ own) s₄.heap d1 v1 := (q1.keeps k3.ext).but fun b o q e => g₄.2.2.1 b o e q.2.1 q.2.2
  refine wpAny_bind (wpAny_holding (wpAny_bindName (wpAny_mono (g₄.1.put (prog := prog) (w := w) hx (l := .d d1) q1') (fun _ s₅ g₅ => ?_) fun _ _ f => f)))
  exact wpAny_pure (.next g₅.1 ((o₃.trans OwnGrow.refl g₄.2).trans OwnGrow.refl g₅.2))
end
end Mine
end
section
open PySem PySem.W PySem.Calls PyProof.Rows
set_option Elab.async false
set_option maxRecDepth 100000
namespace Mine
section
variable {prog : Program} {w : World} {K : Frag} {hB hb : Heap} {T : Tab} {Γ : Nat → List PyData → Option PyData} {hG : Hs} {k : Nat}
  {env : Env} {pl : Nat → Place} {sm : List (Str × Nat)} {P₀ : Addr → Prop} {A : Around} {σ : Loc} {own : Nat → Option Addr} {s : Shared}
theorem Out.step {I : Addr} {h' : Heap} {tk : Nat} {s' : Shared} (o : Out env own s s') (hI : s.heap.get? I = none) (hk : ∀ b o, b ≠ I → s'.heap.get? b = some o → h'.get? b = some o) : Out env own s { s' with heap := h', toks := tk } := by
  obtain ⟨⟨h, t, rfl⟩, e, f⟩ := o
  have nI : ∀ b o, s.heap.get? b = some o → b ≠ I := fun b o e q => by rw [q, hI] at e; cases e
  exact ⟨⟨h', tk, rfl⟩, fun b o q m n => hk b o (nI b o q) (e b o q m n), fun b o q => let ⟨o', q'⟩ := f b o q; ⟨o', hk b o' (nI b o q) q'⟩⟩
theorem Rel.open {J : Addr} (R : Rel env pl sm hB hb (But P₀ J) A k σ own s) (hJb : hb.get? J = none) (hJm : ¬ Mut env J) (hf : P₀ J) : Rel env pl sm hB hb P₀ A k σ own s :=
  R.beside (h' := s.heap) (tk := s.toks) (fun _ _ _ e => e) hJb hJm (fun _ q => q.1) fun _ => hf
noncomputable def BodyOk (prog : Program) (w : World) (env : Env) (pl : Nat → Place) (sm : List (Str × Nat)) (hB hb : Heap) (A : Around) (k : Nat) (body : List Stmt) (f : Loc → Option (Fl × Loc)) : Prop :=
  ∀ (P₀ : Addr → Prop) (σ : Loc) (own : Nat → Option Addr) (s : Shared) (fl : Fl) (σ' : Loc), Rel env pl sm hB hb P₀ A k σ own s → f σ = some (fl, σ') → wpAny (model prog w) A (execs body env) (ExPost env pl sm hB hb P₀ A k own s fl σ') NoE s
theorem whl_ok {t : IE} {b : ISs} {p : Pos} {n : Nat} {fl : Fl} {σ' : Loc} (B : Base prog w K hB T Γ hG k) (hw : wf T env.scope.names sm t = true) (hb' : BodyOk prog w env pl sm hB hb A k b.ast (fun σ => exs Γ hG b σ)) (R : Rel env pl sm hB hb P₀ A k σ own s)
    (e : whileL (fun σ => (view t σ (ev Γ hG t σ)).bind truth) (fun σ => exs Γ hG b σ) n σ = some (fl, σ')) : wpAny (model prog w) A (exec (.While t.ast b.ast [] p) env) (ExPost env pl sm hB hb P₀ A k own s fl σ') NoE s := by
  refine wpAny_While (codeAny_whileLoop (fun n s' => ∃ σ₁ own₁, Rel env pl sm hB hb P₀ A k σ₁ own₁ s' ∧ Out env own s s' ∧ OwnGrow own own₁ s ∧ whileL (fun σ => (view t σ (ev Γ hG t σ)).bind truth) (fun σ => exs Γ hG b σ) n σ₁ = some (fl, σ')) ?_ n ⟨σ, own, R, Out.refl _, OwnGrow.refl, e⟩)
  rintro n s₁ ⟨σ₁, own₁, R₁, o₁, g₁, e₁⟩
  cases n with
  | zero => cases e₁
  | succ n =>
    simp only [whileL] at e₁
    split at e₁
    · cases e₁
    · rename_i ht
      cases e₁
      refine wp_noE (wpAny_mono (tst_ok B t hw R₁.here ht (fun _ => ev_ok B t hw R₁.here)) (fun c s₂ g₂ => ?_) fun _ _ f => f)
      obtain ⟨rfl, k₂⟩ := g₂
      simp only [Bool.false_eq_true, if_false]
      exact wp_noE (wpAny_pure ⟨own₁, R₁.kp k₂, o₁.trans g₁ (Out.kp k₂), g₁, rfl⟩)
    · rename_i ht
      refine wp_noE (wpAny_mono (tst_ok B t hw R₁.here ht (fun _ => ev_ok B t hw R₁.here)) (fun c s₂ g₂ => ?_) fun _ _ f => f)
      obtain ⟨rfl, k₂⟩ := g₂
      simp only [if_true]
      split at e₁
      · cases e₁
      · rename_i σ₂ he
        refine wp_noE (wpAny_mono (hb' P₀ σ₁ own₁ s₂ _ _ (R₁.kp k₂) he) (fun f s₃ g₃ => ?_) fun _ _ f => f)
        obtain ⟨own₃, R₃, o₃, w₃, rfl⟩ := g₃
        have o₂ : Out env own s s₂ := o₁.trans g₁ (Out.kp k₂)
        exact ⟨n, Nat.lt_succ_self _, σ₂, own₃, R₃, o₂.trans g₁ o₃, OwnGrow.trans o₂ g₁ w₃, e₁⟩
      · rename_i d σ₂ he
        cases e₁
        refine wp_noE (wpAny_mono (hb' P₀ σ₁ own₁ s₂ _ _ (R₁.kp k₂) he) (fun f s₃ g₃ => ?_) fun _ _ f => f)
        have o₂ : Out env own s s₂ := o₁.trans g₁ (Out.kp k₂)
        have := ExPost.after o₂ g₁ g₃
        obtain ⟨own₃, R₃, o₃, w₃, v, rfl, q⟩ := g₃
        exact this
theorem for_ok {t : Tgt} {p : Pos} {it : IT} {b : ISs} {xs : List PyData} {fl : Fl} {σ' : Loc} (B : Base prog w K hB T Γ hG k) (hw : wfit T env.scope.names sm it = true) (hiv : it.isV = false) (hx : ∀ x ∈ t.names, sm.lookup x.1 = some x.2) (hb' : BodyOk prog w env pl sm hB hb A k b.ast (fun σ => exs Γ hG b σ)) (R : Rel env pl sm hB hb P₀ A k σ own s)
    (hi : evit Γ hG it σ = some xs) (e : forL (fun v σ => match t.bind v σ with | none => none | some σ' => exs Γ hG b σ') xs σ = some (fl, σ')) : wpAny (model prog w) A (exec (.For t.ast it.ast b.ast [] p) env) (ExPost env pl sm hB hb P₀ A k own s fl σ') NoE s := by
  refine wpAny_For (wpAny_mono (evit_ok B it hiv hw R.here hi) (fun v s₁ g₁ => ?_) fun _ _ f => f) (fun _ => fold_ast it _)
  have R₁ := R.kp g₁.1
  refine wpAny_mono g₁.2 (fun iv s₂ g₂ => ?_) fun _ _ f => f
  obtain ⟨k₂, I, fp, wr, Pr, St, rfl, W, hst, hI, hwr, hfp, hfe, hlv, hPr⟩ := g₂
  have R₂ := R₁.restrict (J := I) k₂ hI (let ⟨o, ho, _⟩ := hlv _ _ hst; ⟨o, ho⟩)
  have hIm := R₁.mut_there hI
  have hIb := R₁.base_there hI
  have oo : Out env own s s₁ := Out.kp g₁.1
  -- what a step leaves of the iterator
  have frame : ∀ (j : Nat) (own₁ : Nat → Option Addr) (s' s'' : Shared), OwnGrow own own₁ s₁ → (∀ i, own₁ i ≠ some I) → Out env own₁ s' s'' → St j s'.heap → St j s''.heap := by
    intro j own₁ s' s'' g nI o st
    refine W.frame _ _ _ st fun c hc ob eb => o.2.1 c ob eb ?_ ?_
    · rcases hfp c hc with rfl | ⟨q, _⟩
      · exact hIm
      · exact q.2.1
    · intro j' q
      rcases hfp c hc with rfl | ⟨q', o', e'⟩
      · exact nI j' q
      · rcases g j' c q with ⟨l, hl⟩ | hl
        · exact q'.2.2 l hl
        · rw [hl] at e'; cases e'
  refine codeAny_forLoopT (fun n s' => ∃ j σ₁ own₁, j ≤ xs.length ∧ n = xs.length - j ∧ St j s'.heap ∧ Rel env pl sm hB hb (But P₀ I) A k σ₁ own₁ s' ∧ Out env own s₁ s' ∧ OwnGrow own own₁ s₁ ∧ forL (fun v σ => match t.bind v σ with | none => none | some σ' => exs Γ hG b σ') (xs.drop j) σ₁ = some (fl, σ')) ?_ xs.length
    ⟨0, σ, own, Nat.zero_le _, rfl, hst, R₂, Out.kp k₂, OwnGrow.refl, by simpa using e⟩
  rintro n s₃ ⟨j, σ₁, own₁, hj, rfl, st₃, R₃, o₃, g₃, e₃⟩
  have nI : ∀ i, own₁ i ≠ some I := fun i q => (R₃.ownIn i I q).2.1.2 rfl
  by_cases hlt : j < xs.length
  · refine W.item j _ _ _ hlt st₃ fun v h₄ tk₄ hv st₄ hk₄ => ?_
    have hk : ∀ b o, b ≠ I → s₃.heap.get? b = some o → h₄.get? b = some o := fun b o h1 h2 => hk₄ b o (fun q => h1 (hwr _ q)) h2
    have R₄ := R₃.beside (P₁ := But P₀ I) (tk := tk₄) hk hIb hIm (fun _ q => q) fun q => by obtain ⟨o, ho, _⟩ := hlv _ _ st₄; rw [q] at ho; cases ho
    have o₄ : Out env own s₁ { s₃ with heap := h₄, toks := tk₄ } := o₃.step hI hk
    obtain ⟨d, hd, rv⟩ := hPr j v hlt hv
    have rv₄ : RV (Pm env (But P₀ I) own₁) h₄ d v := rv.map fun a o q eq => by
      refine ⟨⟨⟨q.1, fun z => by rw [z, hI] at eq; cases eq⟩, q.2.1, fun j' z => ?_⟩, o₄.2.1 a o eq q.2.1 q.2.2⟩
      rcases g₃ j' a z with ⟨l, hl⟩ | hl
      · exact q.2.2 l hl
      · rw [hl] at eq; cases eq
    have hdrop : xs.drop j = d :: xs.drop (j + 1) := by
      rw [List.drop_eq_getElem_cons hlt]
      congr 1
      rw [List.getElem?_eq_getElem hlt] at hd
      exact Option.some.inj hd
    rw [hdrop] at e₃
    simp only [forL] at e₃
    obtain ⟨oI, hoI, hno⟩ := hlv _ _ st₄
    refine letOwned_ok t hoI hno ?_
    cases hbd : t.bind d σ₁ with
    | none => rw [hbd] at e₃; cases e₃
    | some σb =>
    rw [hbd] at e₃
    simp only at e₃
    refine wpAny_mono (R₄.assignT (prog := prog) (w := w) hx rv₄ hbd) (fun _ s₅ g₅ => ?_) fun _ _ f => f
    obtain ⟨R₅, o₅⟩ := g₅
    have st₅ : St (j + 1) s₅.heap := frame _ own₁ _ _ g₃ nI o₅ st₄
    have o5 : Out env own s₁ s₅ := o₄.trans g₃ o₅
    split at e₃
    · cases e₃
    · rename_i σ₂ he
      refine wpAny_mono (hb' _ _ own₁ s₅ _ _ R₅ he) (fun f s₆ g₆ => ?_) fun _ _ f => f
      obtain ⟨own₆, R₆, o₆, w₆, rfl⟩ := g₆
      exact ⟨xs.length - (j + 1), by omega, j + 1, σ₂, own₆, hlt, rfl, frame _ own₁ _ _ g₃ nI o₆ st₅, R₆, o5.trans g₃ o₆, OwnGrow.trans o5 g₃ w₆, e₃⟩
    · rename_i d' σ₂ he
      cases e₃
      refine wpAny_mono (hb' _ _ own₁ s₅ _ _ R₅ he) (fun f s₆ g₆ => ?_) fun _ _ f => f
      obtain ⟨own₆, R₆, o₆, w₆, v', rfl, q⟩ := g₆
      have o6 := o5.trans g₃ o₆
      have w6 := OwnGrow.trans o5 g₃ w₆
      exact ⟨own₆, R₆.open hIb hIm (R₁.fresh I hI), oo.trans OwnGrow.refl o6, OwnGrow.trans oo OwnGrow.refl w6, v', rfl, q.mono fun a z => ⟨z.1.1, z.2⟩⟩
  · have hin : j = xs.length := by omega
    subst hin
    rw [List.drop_length] at e₃
    cases e₃
    refine W.done _ _ _ st₃ fun h₄ tk₄ hk₄ => ?_
    have hk : ∀ b o, b ≠ I → s₃.heap.get? b = some o → h₄.get? b = some o := fun b o h1 h2 => hk₄ b o (fun q => h1 (hwr _ q)) h2
    have R₄ := R₃.beside (P₁ := P₀) (tk := tk₄) hk hIb hIm (fun _ q => q.1) fun _ => R₁.fresh I hI
    have o₄ : Out env own s₁ { s₃ with heap := h₄, toks := tk₄ } := o₃.step hI hk
    exact wpAny_execs_nil ⟨own₁, R₄, oo.trans OwnGrow.refl o₄, OwnGrow.trans oo OwnGrow.refl g₃, rfl⟩
end
end Mine
end
section
open PySem PySem.W PySem.Calls PyProof.Rows
set_option Elab.async false
set_option maxRecDepth 100000
namespace Mine
section
variable {prog : Program} {w : World} {K : Frag} {hB hb : Heap} {T : Tab} {Γ : Nat → List PyData → Option PyData} {hG : Hs} {k : Nat}
  {env : Env} {pl : Nat → Place} {sm : List (Str × Nat)} {A : Around}
theorem lookup_of_contains : ∀ {l : List (Str × Nat)} {i : Nat}, (l.map (·.2)).contains i = true → (∀ x ∈ l, l.lookup x.1 = some x.2) → ∃ x, l.lookup x = some i := by
  intro l i h hl
  rw [List.contains_iff_mem, List.mem_map] at h
  obtain ⟨x, hx, rfl⟩ := h
  exact ⟨x.1, hl x hx⟩
mutual
theorem ex_ok (B : Base prog w K hB T Γ hG k) (hsm : ∀ x ∈ sm, sm.lookup x.1 = some x.2) : ∀ (st : IS) (P₀ : Addr → Prop) (σ : Loc) (own : Nat → Option Addr) (s : Shared) (fl : Fl) (σ' : Loc), wfS T env.scope.names sm st = true → Rel env pl sm hB hb P₀ A k σ own s → ex Γ hG st σ = some (fl, σ') →
    wpAny (model prog w) A (exec st.ast env) (ExPost env pl sm hB hb P₀ A k own s fl σ') NoE s
  | .asg x i px e p, P₀, σ, own, s, fl, σ', hw, R, h => by
    simp only [wfS_e0, wfS_e1, wfS_e2, wfS_e3, wfS_e4, wfS_e5, wfS_e6, wfS_e7, wfS_e8, wfS_e9, wfS_e10, wfS_e11, wfS_e12, wfS_e13, wfS_e14, wfS_e15, wfS_e16, wfS_e17, Bool.and_eq_true, beq_iff_eq] at hw
    simp only [ex_e0, ex_e1, ex_e2, ex_e3, ex_e4, ex_e5, ex_e6, ex_e7, ex_e8, ex_e9, ex_e10, ex_e11, ex_e12, ex_e13, ex_e14, ex_e15, ex_e16, ex_e17] at h
    split at h
    · cases h
    · rename_i d hd; cases h; exact asg_ok B hw.1 hw.2 R hd
  | .asgO x i px e p, P₀, σ, own, s, fl, σ', hw, R, h => by
    simp only [wfS_e0, wfS_e1, wfS_e2, wfS_e3, wfS_e4, wfS_e5, wfS_e6, wfS_e7, wfS_e8, wfS_e9, wfS_e10, wfS_e11, wfS_e12, wfS_e13, wfS_e14, wfS_e15, wfS_e16, wfS_e17, Bool.and_eq_true, beq_iff_eq] at hw
    simp only [ex_e0, ex_e1, ex_e2, ex_e3, ex_e4, ex_e5, ex_e6, ex_e7, ex_e8, ex_e9, ex_e10, ex_e11, ex_e12, ex_e13, ex_e14, ex_e15, ex_e16, ex_e17] at h
    split at h
    · rename_i xs hn hd; cases h; exact asgO_ok B hn hw.1 hw.2 R hd
    · cases h
  | .asg2 x i px y j py e p, P₀, σ, own, s, fl, σ', hw, R, h => by
    simp only [wfS_e0, wfS_e1, wfS_e2, wfS_e3, wfS_e4, wfS_e5, wfS_e6, wfS_e7, wfS_e8, wfS_e9, wfS_e10, wfS_e11, wfS_e12, wfS_e13, wfS_e14, wfS_e15, wfS_e16, wfS_e17, Bool.and_eq_true, beq_iff_eq] at hw
    simp only [ex_e0, ex_e1, ex_e2, ex_e3, ex_e4, ex_e5, ex_e6, ex_e7, ex_e8, ex_e9, ex_e10, ex_e11, ex_e12, ex_e13, ex_e14, ex_e15, ex_e16, ex_e17] at h
    split at h
    · cases h
    · rename_i d hd; cases h; exact asg2_ok B hw.1.1 hw.1.2 hw.2 R hd
  | .aug x i px op e p, P₀, σ, own, s, fl, σ', hw, R, h => by
    simp only [wfS_e0, wfS_e1, wfS_e2, wfS_e3, wfS_e4, wfS_e5, wfS_e6, wfS_e7, wfS_e8, wfS_e9, wfS_e10, wfS_e11, wfS_e12, wfS_e13, wfS_e14, wfS_e15, wfS_e16, wfS_e17, Bool.and_eq_true, beq_iff_eq] at hw
    simp only [ex_e0, ex_e1, ex_e2, ex_e3, ex_e4, ex_e5, ex_e6, ex_e7, ex_e8, ex_e9, ex_e10, ex_e11, ex_e12, ex_e13, ex_e14, ex_e15, ex_e16, ex_e17] at h
    split at h
    · rename_i a ha
      split at h
      · cases h
      · rename_i b hb'
        split at h
        · cases h
        · rename_i d hd; cases h; exact aug_ok B hw.1.1 hw.1.2 hw.2 R ha hb' hd
    · cases h
  | .swp x i px y j py kt pt a b kv pv p, P₀, σ, own, s, fl, σ', hw, R, h => by
    simp only [wfS_e0, wfS_e1, wfS_e2, wfS_e3, wfS_e4, wfS_e5, wfS_e6, wfS_e7, wfS_e8, wfS_e9, wfS_e10, wfS_e11, wfS_e12, wfS_e13, wfS_e14, wfS_e15, wfS_e16, wfS_e17, Bool.and_eq_true, beq_iff_eq, bne_iff_ne, Bool.not_eq_true'] at hw
    obtain ⟨⟨⟨⟨⟨⟨⟨⟨⟨h1, h2⟩, h3⟩, h4⟩, h5⟩, h6⟩, h7⟩, h8⟩, h9⟩, h10⟩ := hw
    simp only [ex_e0, ex_e1, ex_e2, ex_e3, ex_e4, ex_e5, ex_e6, ex_e7, ex_e8, ex_e9, ex_e10, ex_e11, ex_e12, ex_e13, ex_e14, ex_e15, ex_e16, ex_e17] at h
    split at h
    · cases h
    · rename_i d1 hd1
      split at h
      · cases h
      · rename_i d2 hd2; cases h; exact swp_ok B h1 h2 h3 h4 h5 h6 h7 h8 h9 h10 R hd1 hd2
  | .app x i px ap e pc p, P₀, σ, own, s, fl, σ', hw, R, h => by
    simp only [wfS_e0, wfS_e1, wfS_e2, wfS_e3, wfS_e4, wfS_e5, wfS_e6, wfS_e7, wfS_e8, wfS_e9, wfS_e10, wfS_e11, wfS_e12, wfS_e13, wfS_e14, wfS_e15, wfS_e16, wfS_e17, Bool.and_eq_true, beq_iff_eq] at hw
    simp only [ex_e0, ex_e1, ex_e2, ex_e3, ex_e4, ex_e5, ex_e6, ex_e7, ex_e8, ex_e9, ex_e10, ex_e11, ex_e12, ex_e13, ex_e14, ex_e15, ex_e16, ex_e17] at h
    split at h
    · rename_i xs hxs
      split at h
      · cases h
      · rename_i d hd
        split at h
        · rename_i hl; cases h; exact app_ok B hw.1.1.1 hw.1.1.2 hw.1.2 hw.2 R hxs hd hl
        · cases h
    · cases h
  | .seti x i px ix ps e p, P₀, σ, own, s, fl, σ', hw, R, h => by
    simp only [wfS_e0, wfS_e1, wfS_e2, wfS_e3, wfS_e4, wfS_e5, wfS_e6, wfS_e7, wfS_e8, wfS_e9, wfS_e10, wfS_e11, wfS_e12, wfS_e13, wfS_e14, wfS_e15, wfS_e16, wfS_e17, Bool.and_eq_true, beq_iff_eq] at hw
    simp only [ex_e0, ex_e1, ex_e2, ex_e3, ex_e4, ex_e5, ex_e6, ex_e7, ex_e8, ex_e9, ex_e10, ex_e11, ex_e12, ex_e13, ex_e14, ex_e15, ex_e16, ex_e17] at h
    split at h
    · rename_i xs hxs
      split at h
      · cases h
      · rename_i d hd
        split at h
        · rename_i n hn
          split at h
          · rename_i hc
            simp only [Bool.and_eq_true, decide_eq_true_eq] at hc
            cases h; exact seti_ok B hw.1.1.1 hw.1.1.2 hw.1.2 hw.2 R hxs hd hn hc.1.1 hc.1.2 hc.2
          · cases h
        · cases h
    · cases h
  | .deli x i px ix ps p, P₀, σ, own, s, fl, σ', hw, R, h => by
    simp only [wfS_e0, wfS_e1, wfS_e2, wfS_e3, wfS_e4, wfS_e5, wfS_e6, wfS_e7, wfS_e8, wfS_e9, wfS_e10, wfS_e11, wfS_e12, wfS_e13, wfS_e14, wfS_e15, wfS_e16, wfS_e17, Bool.and_eq_true, beq_iff_eq] at hw
    simp only [ex_e0, ex_e1, ex_e2, ex_e3, ex_e4, ex_e5, ex_e6, ex_e7, ex_e8, ex_e9, ex_e10, ex_e11, ex_e12, ex_e13, ex_e14, ex_e15, ex_e16, ex_e17] at h
    split at h
    · rename_i xs hxs
      split at h
      · rename_i n hn
        split at h
        · rename_i j hj
          split at h
          · rename_i hc
            simp only [Bool.and_eq_true, decide_eq_true_eq] at hc
            cases h; exact deli_ok B hw.1.1 hw.1.2 hw.2 R hxs hn hj hc.2 hc.1
          · cases h
        · cases h
      · cases h
    · cases h
  | .ite t b o p, P₀, σ, own, s, fl, σ', hw, R, h => by
    simp only [wfS_e0, wfS_e1, wfS_e2, wfS_e3, wfS_e4, wfS_e5, wfS_e6, wfS_e7, wfS_e8, wfS_e9, wfS_e10, wfS_e11, wfS_e12, wfS_e13, wfS_e14, wfS_e15, wfS_e16, wfS_e17, Bool.and_eq_true] at hw
    simp only [ex_e0, ex_e1, ex_e2, ex_e3, ex_e4, ex_e5, ex_e6, ex_e7, ex_e8, ex_e9, ex_e10, ex_e11, ex_e12, ex_e13, ex_e14, ex_e15, ex_e16, ex_e17] at h
    split at h
    · cases h
    · rename_i ht
      refine wpAny_If (wpAny_mono (tst_ok B t hw.1.1 R.here ht (fun _ => ev_ok B t hw.1.1 R.here)) (fun c s₁ g₁ => ?_) fun _ _ f => f)
      obtain ⟨rfl, k₁⟩ := g₁
      simp only [if_true]
      exact wpAny_mono (exs_ok B hsm b P₀ σ own s₁ fl σ' hw.1.2 (R.kp k₁) h) (fun _ _ g => g.after (Out.kp k₁) OwnGrow.refl) fun _ _ f => f
    · rename_i ht
      refine wpAny_If (wpAny_mono (tst_ok B t hw.1.1 R.here ht (fun _ => ev_ok B t hw.1.1 R.here)) (fun c s₁ g₁ => ?_) fun _ _ f => f)
      obtain ⟨rfl, k₁⟩ := g₁
      simp only [Bool.false_eq_true, if_false]
      exact wpAny_mono (exs_ok B hsm o P₀ σ own s₁ fl σ' hw.2 (R.kp k₁) h) (fun _ _ g => g.after (Out.kp k₁) OwnGrow.refl) fun _ _ f => f
  | .whl n t b p, P₀, σ, own, s, fl, σ', hw, R, h => by
    simp only [wfS_e0, wfS_e1, wfS_e2, wfS_e3, wfS_e4, wfS_e5, wfS_e6, wfS_e7, wfS_e8, wfS_e9, wfS_e10, wfS_e11, wfS_e12, wfS_e13, wfS_e14, wfS_e15, wfS_e16, wfS_e17, Bool.and_eq_true] at hw
    simp only [ex_e0, ex_e1, ex_e2, ex_e3, ex_e4, ex_e5, ex_e6, ex_e7, ex_e8, ex_e9, ex_e10, ex_e11, ex_e12, ex_e13, ex_e14, ex_e15, ex_e16, ex_e17] at h
    exact whl_ok B hw.1 (fun P₁ σ₁ own₁ s₁ fl₁ σ₂ R₁ e₁ => exs_ok B hsm b P₁ σ₁ own₁ s₁ fl₁ σ₂ hw.2 R₁ e₁) R h
  | .for t it b p, P₀, σ, own, s, fl, σ', hw, R, h => by
    simp only [wfS_e0, wfS_e1, wfS_e2, wfS_e3, wfS_e4, wfS_e5, wfS_e6, wfS_e7, wfS_e8, wfS_e9, wfS_e10, wfS_e11, wfS_e12, wfS_e13, wfS_e14, wfS_e15, wfS_e16, wfS_e17, Bool.and_eq_true, beq_iff_eq, List.all_eq_true, Bool.not_eq_true'] at hw
    simp only [ex_e0, ex_e1, ex_e2, ex_e3, ex_e4, ex_e5, ex_e6, ex_e7, ex_e8, ex_e9, ex_e10, ex_e11, ex_e12, ex_e13, ex_e14, ex_e15, ex_e16, ex_e17] at h
    split at h
    · cases h
    · rename_i xs hxs
      exact for_ok B hw.1.1.1 hw.2 hw.1.2 (fun P₁ σ₁ own₁ s₁ fl₁ σ₂ R₁ e₁ => exs_ok B hsm b P₁ σ₁ own₁ s₁ fl₁ σ₂ hw.1.1.2 R₁ e₁) R hxs h
  | .hnew x i px pf pc p, P₀, σ, own, s, fl, σ', hw, R, h => by
    simp only [wfS_e0, wfS_e1, wfS_e2, wfS_e3, wfS_e4, wfS_e5, wfS_e6, wfS_e7, wfS_e8, wfS_e9, wfS_e10, wfS_e11, wfS_e12, wfS_e13, wfS_e14, wfS_e15, wfS_e16, wfS_e17, Bool.and_eq_true, beq_iff_eq] at hw
    cases h
    exact hnew_ok B hw.1 hw.2 R
  | .hcall m x i px ap es pc p, P₀, σ, own, s, fl, σ', hw, R, h => by
    simp only [wfS_e0, wfS_e1, wfS_e2, wfS_e3, wfS_e4, wfS_e5, wfS_e6, wfS_e7, wfS_e8, wfS_e9, wfS_e10, wfS_e11, wfS_e12, wfS_e13, wfS_e14, wfS_e15, wfS_e16, wfS_e17, Bool.and_eq_true, beq_iff_eq, decide_eq_true_eq] at hw
    simp only [ex_e0, ex_e1, ex_e2, ex_e3, ex_e4, ex_e5, ex_e6, ex_e7, ex_e8, ex_e9, ex_e10, ex_e11, ex_e12, ex_e13, ex_e14, ex_e15, ex_e16, ex_e17] at h
    split at h
    · rename_i c ad kvs hk
      split at h
      · cases h
      · rename_i xs hxs
        split at h
        · rename_i hc
          split at h
          · cases h
          · rename_i r hr
            cases h
            have e := eq_of_beq hc
            subst e
            exact hset_ok B hw.1.1.1.1 hw.1.1.1.2 hw.1.1.2 hw.1.2 hw.2 R hk hxs hr
        · cases h
    · cases h
  | .happ x i px pa ap e pc p, P₀, σ, own, s, fl, σ', hw, R, h => by
    simp only [wfS_e0, wfS_e1, wfS_e2, wfS_e3, wfS_e4, wfS_e5, wfS_e6, wfS_e7, wfS_e8, wfS_e9, wfS_e10, wfS_e11, wfS_e12, wfS_e13, wfS_e14, wfS_e15, wfS_e16, wfS_e17, Bool.and_eq_true, beq_iff_eq] at hw
    simp only [ex_e0, ex_e1, ex_e2, ex_e3, ex_e4, ex_e5, ex_e6, ex_e7, ex_e8, ex_e9, ex_e10, ex_e11, ex_e12, ex_e13, ex_e14, ex_e15, ex_e16, ex_e17] at h
    split at h
    · rename_i c ad kvs hk
      split at h
      · cases h
      · rename_i d hd
        split at h
        · rename_i hc
          simp only [Bool.and_eq_true, decide_eq_true_eq, beq_iff_eq] at hc
          cases h
          obtain ⟨rfl, hl⟩ := hc
          exact happ_ok B hw.1.1.1 hw.1.1.2 hw.1.2 hw.2 R hk hd hl
        · cases h
    · cases h
  | .forE x i px ap pc tgt body p, P₀, σ, own, s, fl, σ', hw, R, h => by
    simp only [wfS_e0, wfS_e1, wfS_e2, wfS_e3, wfS_e4, wfS_e5, wfS_e6, wfS_e7, wfS_e8, wfS_e9, wfS_e10, wfS_e11, wfS_e12, wfS_e13, wfS_e14, wfS_e15, wfS_e16, wfS_e17, Bool.and_eq_true, beq_iff_eq] at hw
    simp only [ex_e0, ex_e1, ex_e2, ex_e3, ex_e4, ex_e5, ex_e6, ex_e7, ex_e8, ex_e9, ex_e10, ex_e11, ex_e12, ex_e13, ex_e14, ex_e15, ex_e16, ex_e17] at h
    split at h
    · rename_i hk
      cases h
      exact forE_ok hw.1.1 hw.1.2 hw.2 R hk
    · cases h
  | .ret e p, P₀, σ, own, s, fl, σ', hw, R, h => by
    simp only [wfS_e0, wfS_e1, wfS_e2, wfS_e3, wfS_e4, wfS_e5, wfS_e6, wfS_e7, wfS_e8, wfS_e9, wfS_e10, wfS_e11, wfS_e12, wfS_e13, wfS_e14, wfS_e15, wfS_e16, wfS_e17] at hw
    simp only [ex_e0, ex_e1, ex_e2, ex_e3, ex_e4, ex_e5, ex_e6, ex_e7, ex_e8, ex_e9, ex_e10, ex_e11, ex_e12, ex_e13, ex_e14, ex_e15, ex_e16, ex_e17] at h
    split at h
    · cases h
    · rename_i d hd; cases h; exact ret_ok B hw R hd
  | .asrt e p, P₀, σ, own, s, fl, σ', hw, R, h => by
    simp only [wfS_e0, wfS_e1, wfS_e2, wfS_e3, wfS_e4, wfS_e5, wfS_e6, wfS_e7, wfS_e8, wfS_e9, wfS_e10, wfS_e11, wfS_e12, wfS_e13, wfS_e14, wfS_e15, wfS_e16, wfS_e17] at hw
    simp only [ex_e0, ex_e1, ex_e2, ex_e3, ex_e4, ex_e5, ex_e6, ex_e7, ex_e8, ex_e9, ex_e10, ex_e11, ex_e12, ex_e13, ex_e14, ex_e15, ex_e16, ex_e17] at h
    split at h
    · rename_i ht; cases h; exact asrt_ok B hw R ht
    · cases h
  | .frz i st, P₀, σ, own, s, fl, σ', hw, R, h => by
    simp only [wfS_e0, wfS_e1, wfS_e2, wfS_e3, wfS_e4, wfS_e5, wfS_e6, wfS_e7, wfS_e8, wfS_e9, wfS_e10, wfS_e11, wfS_e12, wfS_e13, wfS_e14, wfS_e15, wfS_e16, wfS_e17, Bool.and_eq_true] at hw
    simp only [ex_e0, ex_e1, ex_e2, ex_e3, ex_e4, ex_e5, ex_e6, ex_e7, ex_e8, ex_e9, ex_e10, ex_e11, ex_e12, ex_e13, ex_e14, ex_e15, ex_e16, ex_e17] at h
    split at h
    · rename_i xs hxs
      obtain ⟨x, hx⟩ := lookup_of_contains hw.2 hsm
      have R' := R.freeze hx hxs
      refine wpAny_mono (ex_ok B hsm st P₀ _ _ s fl σ' hw.1 R' h) (fun f s' g => ?_) fun _ _ f => f
      obtain ⟨own', R'', o, w', q⟩ := g
      refine ⟨own', R'', ⟨o.1, fun b ob e m n => o.2.1 b ob e m fun j z => ?_, o.2.2⟩, fun j a z => ?_, q⟩
      · dsimp only at z
        by_cases e : j = i
        · rw [if_pos e] at z; cases z
        · rw [if_neg e] at z; exact n j z
      · rcases w' j a z with ⟨l, hl⟩ | hl
        · dsimp only at hl
          by_cases e : l = i
          · rw [if_pos e] at hl; cases hl
          · rw [if_neg e] at hl; exact .inl ⟨l, hl⟩
        · exact .inr hl
    · cases h
theorem exs_ok (B : Base prog w K hB T Γ hG k) (hsm : ∀ x ∈ sm, sm.lookup x.1 = some x.2) : ∀ (st : ISs) (P₀ : Addr → Prop) (σ : Loc) (own : Nat → Option Addr) (s : Shared) (fl : Fl) (σ' : Loc), wfSs T env.scope.names sm st = true → Rel env pl sm hB hb P₀ A k σ own s → exs Γ hG st σ = some (fl, σ') →
    wpAny (model prog w) A (execs st.ast env) (ExPost env pl sm hB hb P₀ A k own s fl σ') NoE s
  | .nil, P₀, σ, own, s, fl, σ', hw, R, h => by
    cases h
    exact wpAny_execs_nil (.next R (Out.refl _))
  | .cons st r, P₀, σ, own, s, fl, σ', hw, R, h => by
    simp only [wfSs_e0, wfSs_e1, Bool.and_eq_true] at hw
    simp only [exs_e0, exs_e1] at h
    split at h
    · cases h
    · rename_i σ₁ he
      refine wpAny_execs_cons (wpAny_mono (ex_ok B hsm st P₀ σ own s _ _ hw.1 R he) (fun f s₁ g₁ => ?_) fun _ _ f => f)
      obtain ⟨own₁, R₁, o₁, w₁, rfl⟩ := g₁
      exact wpAny_mono (exs_ok B hsm r P₀ σ₁ own₁ s₁ fl σ' hw.2 R₁ h) (fun _ _ g => g.after o₁ w₁) fun _ _ f => f
    · rename_i d σ₁ he
      cases h
      refine wpAny_execs_cons (wpAny_mono (ex_ok B hsm st P₀ σ own s _ _ hw.1 R he) (fun f s₁ g₁ => ?_) fun _ _ f => f)
      have g₁' := g₁
      obtain ⟨own₁, R₁, o₁, w₁, v, rfl, q⟩ := g₁'
      exact g₁
end
end
end Mine
end
section
open PySem PySem.W PySem.Calls PyProof.Rows
set_option Elab.async false
set_option maxRecDepth 100000
namespace Mine
theorem bindL_other {kd : Str → Option NameKind} : ∀ {binds : List (Str × Value)} {m : Str → Option Value} {x : Str}, (∀ b ∈ binds, b.1 ≠ x) → bindL kd binds m x = m x
  | [], m, x, _ => rfl
  | (n, v) :: r, m, x, h => by
    unfold bindL
    rw [bindL_other fun b hb => h b (List.mem_cons_of_mem _ hb)]
    have := h (n, v) (List.mem_cons_self ..)
    split
    · simp [Ne.symm this]
    · rfl
theorem bindL_get {kd : Str → Option NameKind} : ∀ {binds : List (Str × Value)} {m : Str → Option Value} {x : Str} {v : Value}, (binds.map (·.1)).Nodup → (x, v) ∈ binds → kd x = some .local → bindL kd binds m x = some v
  | (n, u) :: r, m, x, v, hn, hm, hk => by
    simp only [List.map_cons, List.nodup_cons] at hn
    unfold bindL
    rcases List.mem_cons.mp hm with e | e
    · cases e
      rw [bindL_other fun b hb q => hn.1 (List.mem_map.mpr ⟨b, hb, q⟩), if_pos hk]
      simp
    · exact bindL_get hn.2 e hk
theorem bindC_other {kd : Str → Option NameKind} : ∀ {binds : List (Str × Value)} {m : Str → Option Value} {x : Str}, (∀ b ∈ binds, b.1 ≠ x) → bindC kd binds m x = m x
  | [], m, x, _ => rfl
  | (n, v) :: r, m, x, h => by
    unfold bindC
    rw [bindC_other fun b hb => h b (List.mem_cons_of_mem _ hb)]
    have := h (n, v) (List.mem_cons_self ..)
    split
    · rfl
    · simp [Ne.symm this]
theorem bindC_get {kd : Str → Option NameKind} : ∀ {binds : List (Str × Value)} {m : Str → Option Value} {x : Str} {v : Value}, (binds.map (·.1)).Nodup → (x, v) ∈ binds → kd x ≠ some .local → bindC kd binds m x = some v
  | (n, u) :: r, m, x, v, hn, hm, hk => by
    simp only [List.map_cons, List.nodup_cons] at hn
    unfold bindC
    rcases List.mem_cons.mp hm with e | e
    · cases e
      rw [bindC_other fun b hb q => hn.1 (List.mem_map.mpr ⟨b, hb, q⟩), if_neg hk]
      simp
    · exact bindC_get hn.2 e hk
theorem lookup_isSome {α : Type} : ∀ {l : List (Str × α)} {x : Str}, (l.map (·.1)).contains x = true → (l.lookup x).isSome = true
  | [], x, h => by simp at h
  | (n, v) :: r, x, h => by
    rw [List.lookup_cons]
    cases q : x == n with
    | true => rfl
    | false =>
      simp only [List.map_cons, List.contains_cons, q, Bool.false_or] at h
      exact lookup_isSome h
noncomputable def fnSm (scope : Scope) (sm : List (Str × Nat)) (pn : List (Str × Nat)) : Bool :=
  scope.kind == .function && !scope.isCoroutine && !scope.isGenerator &&
  sm.all (fun x => scope.names.lookup x.1 == some .local || (scope.names.lookup x.1 == some .cell && ((cellsFrom 0 scope.names []).map (·.1)).contains x.1)) &&
  sm.all (fun x => sm.lookup x.1 == some x.2) && decide (sm.map (·.2)).Nodup && pn.all (fun x => sm.lookup x.1 == some x.2) && decide (pn.map (·.1)).Nodup
noncomputable def plOf (env : Env) (sm : List (Str × Nat)) (i : Nat) : Place := match sm.find? (fun x => x.2 == i) with
  | none => .ns env.locals ""
  | some x => if env.kindOf x.1 = some .local then .ns env.locals x.1 else .cell ((env.cells.lookup x.1).getD 0)
theorem mem_lookup {l : List (Str × Nat)} {x : Str} {i : Nat} (h : l.lookup x = some i) : (x, i) ∈ l := PySem.mem_of_lookup h
theorem nodup_snd : ∀ {l : List (Str × Nat)} {a b : Str × Nat}, (l.map (·.2)).Nodup → a ∈ l → b ∈ l → a.2 = b.2 → a = b
  | x :: r, a, b, hn, ha, hb, e => by
    simp only [List.map_cons, List.nodup_cons] at hn
    rcases List.mem_cons.mp ha with ha | ha <;> rcases List.mem_cons.mp hb with hb | hb
    · rw [ha, hb]
    · exact absurd (List.mem_map.mpr ⟨b, hb, by rw [← e, ha]⟩) hn.1
    · exact absurd (List.mem_map.mpr ⟨a, ha, by rw [e, hb]⟩) hn.1
    · exact nodup_snd hn.2 ha hb e
theorem find_slot {sm : List (Str × Nat)} {x : Str} {i : Nat} (hn : (sm.map (·.2)).Nodup) (h : sm.lookup x = some i) : sm.find? (fun y => y.2 == i) = some (x, i) := by
  have hm := mem_lookup h
  cases q : sm.find? (fun y => y.2 == i) with
  | none =>
    rw [List.find?_eq_none] at q
    have := q _ hm
    simp at this
  | some y =>
    have h1 := List.find?_some q
    have h2 := List.mem_of_find?_eq_some q
    have : y = (x, i) := nodup_snd hn h2 hm (by simpa using h1)
    rw [this]
section
variable {prog : Program} {w : World} {K : Frag} {hB hb : Heap} {T : Tab} {Γ : Nat → List PyData → Option PyData} {hG : Hs} {k : Nat}
  {env : Env} {sm pn : List (Str × Nat)} {P : Addr → Prop} {A : Around} {s s₁ : Shared}
theorem cells_some {names : List (Str × NameKind)} {x : Str} (n : Nat) (h : ((cellsFrom 0 names []).map (·.1)).contains x = true) : ((cellsFrom n names []).lookup x).isSome = true :=
  lookup_isSome (by rw [cellsFrom_names names n 0 [] [] rfl]; exact h)
noncomputable def putL : List (Str × Nat) → List LV → Loc → Loc
  | x :: r, l :: ls, σ => putL r ls (σ.put x.2 l)
  | _, _, σ => σ
theorem putL_d : ∀ (ts : List (Str × Nat)) (ds : List PyData) (σ : Loc), putL ts (ds.map .d) σ = putMany ts ds σ
  | [], _, _ => by simp [putL, putMany]
  | _ :: _, [], _ => by simp [putL, putMany]
  | t :: ts, d :: ds, σ => by
    show putL ts (ds.map .d) (σ.put t.2 (.d d)) = putMany ts ds (σ.put t.2 (.d d))
    exact putL_d ts ds _
theorem at_putL : ∀ {ts : List (Str × Nat)} {ls : List LV} {σ : Loc} {i : Nat} {l : LV}, ts.length = ls.length → (putL ts ls σ).at i = some l →
    (∃ (j : Nat) (t : Str × Nat), ts[j]? = some t ∧ ls[j]? = some l ∧ t.2 = i) ∨ ((∀ t ∈ ts, t.2 ≠ i) ∧ σ.at i = some l)
  | [], [], σ, i, l, _, h => by exact .inr ⟨fun _ m => (nomatch m), h⟩
  | t :: ts, d :: ds, σ, i, l, hl, h => by
    have hl' : ts.length = ds.length := by simpa using hl
    rcases at_putL (ts := ts) hl' (show (putL ts ds (σ.put t.2 d)).at i = some l from h) with ⟨j, t', e1, e2, e3⟩ | ⟨h1, h2⟩
    · exact .inl ⟨j + 1, t', by simpa using e1, by simpa using e2, e3⟩
    · rcases at_put h2 with ⟨e1, e2⟩ | ⟨e1, e2⟩
      · exact .inl ⟨0, t, rfl, by simp [e2], e1.symm⟩
      · exact .inr ⟨fun t' ht => (List.mem_cons.mp ht).elim (fun q => q ▸ Ne.symm e1) (h1 t'), e2⟩
  | [], _ :: _, _, _, _, hl, _ => by simp at hl
  | _ :: _, [], _, _, _, hl, _ => by simp at hl
theorem Rel.enterL {P₀ : Addr → Prop} {vs : List Value} {ls : List LV} {N n : Nat} {own : Nat → Option Addr} (hs : fnSm env.scope sm pn = true) (hg : env.globals = mainGlobals) (hbu : env.builtins = builtinsNs) (hc : env.cells = cellsFrom n env.scope.names []) (hL : s.heap.get? env.locals = none)
    (hBb : Ext hB hb) (hbk : Ext hb s.heap) (hr : Room A k) (hf : Fresh P₀ s.heap) (hlen : vs.length = pn.length) (hll : ls.length = pn.length)
    (hown : ∀ i a, own i = some a → hb.get? a = none ∧ P₀ a ∧ ∃ ws, s.heap.PlainList a ws) (hinj : ∀ i j a, own i = some a → own j = some a → i = j)
    (hv : ∀ (j : Nat) t l, pn[j]? = some t → ls[j]? = some l → ∃ v, vs[j]? = some v ∧ LVo (fun b => P₀ b ∧ ∀ i, own i ≠ some b) own s.heap t.2 l v)
    (x : InCallC s env.locals (bindL env.kindOf ((pn.map (·.1)).zip vs) fun _ => none) env.cells (bindC env.kindOf ((pn.map (·.1)).zip vs) fun _ => none) s₁) :
    Rel env (plOf env sm) sm hB hb P₀ A k (putL pn ls (List.replicate N none)) own s₁ := by
  simp only [fnSm, Bool.and_eq_true, beq_iff_eq, Bool.not_eq_true', decide_eq_true_eq, List.all_eq_true, Bool.or_eq_true] at hs
  obtain ⟨⟨⟨⟨⟨⟨⟨h1, _⟩, _⟩, h2⟩, h3⟩, h4⟩, h5⟩, h6⟩ := hs
  have hkeep : Ext s.heap s₁.heap := x.toInCall.keep
  have hfresh : s.heap.objs.size ≤ env.locals := x.toInCall.fresh
  have above : ∀ y c, env.cells.lookup y = some c → s.heap.get? c = none := fun y c hy => by
    have := x.above y c (PySem.mem_of_lookup hy)
    cases q : s.heap.get? c with
    | none => rfl
    | some o => exact absurd (Nat.lt_of_lt_of_le (Heap.lt_size q) hfresh) (Nat.lt_asymm this)
  have hmut : ∀ a o, s.heap.get? a = some o → ¬ Mut env a := by
    rintro a o e (rfl | ⟨y, hy⟩)
    · rw [hL] at e; cases e
    · rw [above y a hy] at e; cases e
  have hbn : ∀ a, s.heap.get? a = none → hb.get? a = none := fun a h => by
    cases q : hb.get? a with
    | none => rfl
    | some o => rw [hbk a o q] at h; cases h
  have envOk : EnvOk env (plOf env sm) sm := fun y i hy => by
    have hfs := find_slot h4 hy
    rcases h2 _ (mem_lookup hy) with q | ⟨q, q'⟩
    · refine .inl ⟨q, ?_⟩
      unfold plOf; rw [hfs]; simp only; rw [if_pos (show env.kindOf y = some .local from q)]
    · obtain ⟨c, hcc⟩ := Option.isSome_iff_exists.mp (cells_some n q')
      rw [← hc] at hcc
      refine .inr ⟨.inl q, c, hcc, ?_⟩
      unfold plOf; rw [hfs]; simp only
      rw [if_neg (by rw [show env.kindOf y = some .cell from q]; decide), hcc]; rfl
  have inj : ∀ x y i, sm.lookup x = some i → sm.lookup y = some i → x = y := fun x y i hx hy => by
    have := nodup_snd h4 (mem_lookup hx) (mem_lookup hy) rfl
    exact (Prod.mk.inj this).1
  refine ⟨h1, hg, hbu, envOk, hBb, hbk.trans hkeep, hr, hf.ext hkeep, inj, ⟨_, x.toInCall.ns⟩, hbn _ hL, fun y c hy => ⟨hbn _ (above y c hy), _, x.cell y c hy⟩, fun y z c hy hz => name_of_addr x.apart (PySem.mem_of_lookup hy) (PySem.mem_of_lookup hz), fun y i hy q => ?_,
    fun i a h => let ⟨q1, q2, ws, n, q3⟩ := hown i a h; ⟨q1, q2, ws, n, hkeep _ _ q3⟩, hinj, fun y i l hy hl => ?_⟩
  · rcases h2 _ (mem_lookup hy) with z | ⟨z, _⟩ <;> (rw [show env.kindOf y = _ from z] at q; cases q)
  · rcases at_putL hll.symm hl with ⟨j, t, e1, e2, rfl⟩ | ⟨_, e⟩
    · obtain ⟨v, e3, rv⟩ := hv j t l e1 e2
      have ht : t ∈ pn := List.mem_of_getElem? e1
      have hyt : y = t.1 := inj y t.1 t.2 hy (h5 t ht)
      subst hyt
      have hm : (t.1, v) ∈ (pn.map (·.1)).zip vs := by
        refine List.mem_of_getElem? (i := j) ?_
        rw [List.getElem?_zip_eq_some]
        exact ⟨by rw [List.getElem?_map, e1]; rfl, e3⟩
      have hnd : (((pn.map (·.1)).zip vs).map (·.1)).Nodup := by
        rw [List.map_fst_zip (by simp [hlen])]; exact h6
      refine ⟨v, ?_, rv.map (fun a o p q => ⟨⟨p.1, hmut a o q, p.2⟩, hkeep a o q⟩) fun a o p q => ⟨p, hkeep a o q⟩⟩
      rcases envOk t.1 t.2 hy with ⟨q1, q2⟩ | ⟨q1, c, q2, q3⟩
      · rw [q2]
        exact ⟨_, x.toInCall.ns, bindL_get hnd hm q1⟩
      · rw [q3]
        have := x.cell t.1 c q2
        rw [bindC_get hnd hm (by rcases q1 with q | q <;> rw [q] <;> decide)] at this
        exact this
    · unfold Loc.at at e
      rw [List.getElem?_replicate] at e
      split at e
      · rename_i z; split at z
        · cases z; cases e
        · cases z
      · cases e
noncomputable def Fl.val : Fl → PyData
  | .next => .none
  | .ret d => d
theorem call_ok {f : Addr} {o : Obj} {fd : FuncData} {body : List Stmt} {N : Nat} {pos : List Value} {kw : List (Str × Value)} {Q : Value → Shared → Prop} (B : Base prog w K hB T Γ hG k) (ho : hB.get? f = some o) (hd : o.data = .func fd) (hbody : fd.body = .stmts body) (hclo : fd.closure = []) (hg : fd.globals = mainGlobals) (hbu : fd.builtins = builtinsNs)
    (hcd : hB.CodeRec fd.code fd.qualname) (hs : fnSm fd.scope sm pn = true) (hB' : Ext hB s.heap) (hr : Room A (k + 1))
    (hbind : wpAny (model prog w) A.in1 (bindArgs fd ⟨pos, kw⟩) (fun binds s₁ => ∃ (vs : List Value) (ls : List LV) (own : Nat → Option Addr) (P₀ : Addr → Prop) (hb : Heap), binds = (pn.map (·.1)).zip vs ∧ vs.length = pn.length ∧ ls.length = pn.length ∧ Ext hB hb ∧ Ext hb s₁.heap ∧ Ext hB s₁.heap ∧ Fresh P₀ s₁.heap ∧
      (∀ i a, own i = some a → hb.get? a = none ∧ P₀ a ∧ ∃ ws, s₁.heap.PlainList a ws) ∧ (∀ i j a, own i = some a → own j = some a → i = j) ∧
      (∀ (j : Nat) t l, pn[j]? = some t → ls[j]? = some l → ∃ v, vs[j]? = some v ∧ LVo (fun b => P₀ b ∧ ∀ i, own i ≠ some b) own s₁.heap t.2 l v) ∧
      ∀ (A' : Around) (env : Env) (s₂ : Shared), env.scope = fd.scope → Rel env (plOf env sm) sm hB hb P₀ A' k (putL pn ls (List.replicate N none)) own s₂ → Kp s₁ s₂ → (∀ b o, s₁.heap.get? b = some o → ¬ Mut env b) →
        wpAny (model prog w) A' (execs body env) (fun f s' => Q (match f with | .ret v => v | _ => .none) s') NoE s₂) NoE s) :
    wpAny (model prog w) A (call (.ref f) pos kw) Q NoE s := by
  obtain ⟨p, loose, mg, mb, TR⟩ := B.top
  have hs' := hs
  simp only [fnSm, Bool.and_eq_true, beq_iff_eq, Bool.not_eq_true', decide_eq_true_eq, List.all_eq_true, Bool.or_eq_true] at hs'
  obtain ⟨⟨⟨⟨⟨⟨⟨h1, h1'⟩, h1''⟩, h2⟩, h3⟩, h4⟩, h5⟩, h6⟩ := hs'
  refine wpAny_call (codeAny_call_function (by have := hr.depth; unfold recursionLimit; omega) (hB' _ _ ho) hd h1' h1'' hbody (let ⟨c, o, vs, t, e1, e2, e3⟩ := hcd; ⟨c, o, vs, t, e1, hB' _ _ e2, e3⟩) (wp_noE (wpAny_mono hbind (fun binds s₁ g => ?_) fun _ _ f => f)))
  obtain ⟨vs, ls, own, P₀, hb, rfl, hlen, hll, hBb, hbk, hBs, hf, hown, hinj, hv, run⟩ := g
  rw [hclo]
  refine wpAny_newFunctionEnv_cells h1 (fun y hy => ?_) fun env he s₂ x => ?_
  · have hy1 : y.1 ∈ pn.map (·.1) := (List.of_mem_zip hy).1
    obtain ⟨t, ht, hty⟩ := List.mem_map.mp hy1
    rw [← hty]
    rcases h2 _ (mem_lookup (h5 t ht)) with q | ⟨q, q'⟩
    · exact .inl q
    · exact .inr ⟨q, cells_some _ q'⟩
  subst he
  refine ⟨TR.nolimit.keeps (hBs.trans x.toInCall.keep), codeAny_func ?_⟩
  have hr' : Room (A.deeper (callEnvC fd s₁.heap.objs.size f)) k := ⟨by have := hr.depth; show A.depth + 1 + k ≤ 900; omega, by have := hr.units; show A.units + 3 + 20 * k ≤ 9000; omega, hr.handled⟩
  have R := Rel.enterL (env := callEnvC fd s₁.heap.objs.size f) (hB := hB) (k := k) (N := N) (n := s₁.heap.objs.size + 1) hs hg hbu rfl (get_size_none _) hBb hbk hr' hf hlen hll hown hinj hv x
  have above : ∀ y c, (callEnvC fd s₁.heap.objs.size f).cells.lookup y = some c → s₁.heap.get? c = none := fun y c hy => by
    have := x.above y c (PySem.mem_of_lookup hy)
    cases q : s₁.heap.get? c with
    | none => rfl
    | some o => exact absurd (Heap.lt_size q) (Nat.lt_asymm this)
  have kp : Kp s₁ s₂ := by
    obtain ⟨h₁, tk₁, rfl⟩ := x.toInCall.same
    exact ⟨h₁, tk₁, rfl, x.toInCall.keep⟩
  refine wp_noE (wpAny_mono (run (A.deeper (callEnvC fd s₁.heap.objs.size f)) (callEnvC fd s₁.heap.objs.size f) s₂ rfl R kp (fun b ob e => ?_)) (fun fl' s' g => ?_) fun _ _ f => f)
  · rintro (z | ⟨y, hy⟩)
    · have : s₁.heap.get? b = none := z ▸ get_size_none _
      rw [this] at e; cases e
    · rw [above y b hy] at e; cases e
  · exact g
theorem body_ok {f : Addr} {o : Obj} {fd : FuncData} {body : ISs} {N : Nat} {pos : List Value} {kw : List (Str × Value)} {Q : Value → Shared → Prop} (B : Base prog w K hB T Γ hG k) (ho : hB.get? f = some o) (hd : o.data = .func fd) (hbody : fd.body = .stmts body.ast) (hclo : fd.closure = []) (hg : fd.globals = mainGlobals) (hbu : fd.builtins = builtinsNs)
    (hcd : hB.CodeRec fd.code fd.qualname) (hs : fnSm fd.scope sm pn = true) (hw : wfSs T fd.scope.names sm body = true) (hB' : Ext hB s.heap) (hr : Room A (k + 1))
    (hbind : wpAny (model prog w) A.in1 (bindArgs fd ⟨pos, kw⟩) (fun binds s₁ => ∃ (vs : List Value) (ls : List LV) (own : Nat → Option Addr) (P₀ : Addr → Prop) (hb : Heap) (fl : Fl) (σ' : Loc), binds = (pn.map (·.1)).zip vs ∧ vs.length = pn.length ∧ ls.length = pn.length ∧ Ext hB hb ∧ Ext hb s₁.heap ∧ Ext hB s₁.heap ∧ Fresh P₀ s₁.heap ∧
      (∀ i a, own i = some a → hb.get? a = none ∧ P₀ a ∧ ∃ ws, s₁.heap.PlainList a ws) ∧ (∀ i j a, own i = some a → own j = some a → i = j) ∧
      (∀ (j : Nat) t l, pn[j]? = some t → ls[j]? = some l → ∃ v, vs[j]? = some v ∧ LVo (fun b => P₀ b ∧ ∀ i, own i ≠ some b) own s₁.heap t.2 l v) ∧
      exs Γ hG body (putL pn ls (List.replicate N none)) = some (fl, σ') ∧
      ∀ v s' own', (∃ h' tk, s' = { s₁ with heap := h', toks := tk }) → (∀ b o, s₁.heap.get? b = some o → (∀ i, own i ≠ some b) → s'.heap.get? b = some o) → RV (fun b => P₀ b ∧ ∀ i, own' i ≠ some b) s'.heap fl.val v →
        (∀ i l x, sm.lookup x = some i → σ'.at i = some l → ∃ u, LVo (fun b => P₀ b ∧ ∀ i, own' i ≠ some b) own' s'.heap i l u) → (∀ i a, own' i = some a → (∃ j, own j = some a) ∨ s₁.heap.get? a = none) → Q v s') NoE s) :
    wpAny (model prog w) A (call (.ref f) pos kw) Q NoE s := by
  have h3 : ∀ x ∈ sm, sm.lookup x.1 = some x.2 := by
    have hs' := hs
    simp only [fnSm, Bool.and_eq_true, beq_iff_eq, Bool.not_eq_true', decide_eq_true_eq, List.all_eq_true, Bool.or_eq_true] at hs'
    exact hs'.1.1.1.2
  refine call_ok (N := N) B ho hd hbody hclo hg hbu hcd hs hB' hr (wpAny_mono hbind (fun binds s₁ g => ?_) fun _ _ f => f)
  obtain ⟨vs, ls, own, P₀, hb, fl, σ', rfl, hlen, hll, hBb, hbk, hBs, hf, hown, hinj, hv, hex, fin⟩ := g
  refine ⟨vs, ls, own, P₀, hb, rfl, hlen, hll, hBb, hbk, hBs, hf, hown, hinj, hv, fun A' env s₂ hsc R kp hm => ?_⟩
  refine wpAny_mono (exs_ok B h3 body _ _ _ s₂ _ _ (by rw [hsc]; exact hw) R hex) (fun fl' s' g => ?_) fun _ _ f => f
  obtain ⟨own', R', o', w', q⟩ := g
  obtain ⟨h₁, tk₁, rfl, hkeep⟩ := kp
  obtain ⟨⟨h', tk', rfl⟩, o2, o3⟩ := o'
  have hback : ∀ a, h₁.get? a = none → s₁.heap.get? a = none := fun a ha => by
    cases q : s₁.heap.get? a with
    | none => rfl
    | some o => have := hkeep a o q; rw [ha] at this; cases this
  have goal : ∀ v, RV (fun b => P₀ b ∧ ∀ i, own' i ≠ some b) h' fl.val v → Q v { s₁ with heap := h', toks := tk' } := fun v hv' => fin v _ own' ⟨h', tk', rfl⟩ (fun b ob e n => o2 b ob (hkeep b ob e) (hm b ob e) n) hv' (fun i l y hy hl => by
      obtain ⟨u, _, q⟩ := R'.slots y i l hy hl
      exact ⟨u, q.map (fun a o p q => ⟨⟨p.1, p.2.2⟩, q⟩) fun a o p q => ⟨p, q⟩⟩) (fun i a e => (w' i a e).imp id (hback a))
  cases fl with
  | next => have e : fl' = .next := q; subst e; exact goal .none RV.none
  | ret d => obtain ⟨v, rfl, q⟩ := q; exact goal v (q.mono fun a z => ⟨z.1, z.2.2⟩)
theorem fn_ok {f : Addr} {o : Obj} {fd : FuncData} {body : ISs} {N : Nat} {spec : List PyData → Option PyData} (B : Base prog w K hB T Γ hG k) (ho : hB.get? f = some o) (hd : o.data = .func fd) (hbody : fd.body = .stmts body.ast) (hclo : fd.closure = []) (hg : fd.globals = mainGlobals) (hbu : fd.builtins = builtinsNs)
    (hcd : hB.CodeRec fd.code fd.qualname) (hs : fnSm fd.scope sm pn = true) (hw : wfSs T fd.scope.names sm body = true) (hbind : ∀ vs : List Value, vs.length = pn.length → bindArgs fd ⟨vs, []⟩ = pure ((pn.map (·.1)).zip vs))
    (hspec : ∀ ds d, spec ds = some d → ds.length = pn.length ∧ ∃ σ', exs Γ hG body (putMany pn ds (List.replicate N none)) = some (.ret d, σ')) : FnOk prog w hB f spec (k + 1) := by
  refine ⟨⟨o, fd, ho, hd⟩, fun A s P vs ds d hB' hr hf hv he => ?_⟩
  obtain ⟨hl, σ', hex⟩ := hspec ds d he
  have hlen : vs.length = pn.length := by rw [hv.length, hl]
  refine body_ok (N := N) B ho hd hbody hclo hg hbu hcd hs hw hB' hr ?_
  rw [hbind vs hlen]
  refine wpAny_pure ⟨vs, ds.map .d, fun _ => none, P, s.heap, .ret d, σ', rfl, hlen, by simp [hl], hB', Ext.refl _, hB', hf, fun i a h => (nomatch h), fun i j a h => (nomatch h), fun j t l _ e => ?_, by rw [putL_d]; exact hex, fun v s' own' hs' hk hv' _ _ => ?_⟩
  · rw [List.getElem?_map] at e
    obtain ⟨d', e', rfl⟩ := Option.map_eq_some_iff.mp e
    obtain ⟨v, e2, r⟩ := hv.get e'
    exact ⟨v, e2, r.mono fun a p => ⟨p, fun _ z => (nomatch z)⟩⟩
  · obtain ⟨h', tk, rfl⟩ := hs'
    exact ⟨⟨h', tk, rfl, fun b o e => hk b o e fun _ z => (nomatch z)⟩, hv'.mono fun a z => z.1⟩
end
end Mine
end
section
open PySem PySem.W PySem.Calls PyProof.Rows Builtin Builtin.Re
set_option Elab.async false
set_option maxRecDepth 100000
namespace Mine
theorem plainAttrs_pat : PlainAttrs "re.Pattern" :=
  ⟨⟨"object.__getattribute__", by rw [typeLookup_type, builtinLookup_eq_fast]; kernel_rfl, by decide +kernel⟩, by rw [typeLookup_type, builtinLookup_eq_fast]; kernel_rfl⟩
theorem slot_pat_search : Slot "re.Pattern" "search" "re.Pattern.search" :=
  .of (owner := "re.Pattern") (n := "search") (by rw [typeLookup_type, builtinLookup_eq_fast]; kernel_rfl) (by decide +kernel) (by decide +kernel) (by decide +kernel)
    (by first | exact .inl (by decide +kernel) | exact .inr (by decide +kernel)) (by rw [isSubtype_type]; kernel_rfl)
theorem type_pat_search : typeOf (.builtin "re.Pattern.search") = pure (.type "method_descriptor") := by show builtinType _ = _; rw [builtinType_eq_fast]; kernel_rfl
theorem entry_pat_search : entryFor table "re.Pattern.search" = some Builtin.«re.Pattern.search» := entryFor_of_tree (by kernel_rfl)
theorem args_pat_search (a b : Value) : argsOk "re.Pattern.search" ⟨[a, b], []⟩ := by
  unfold argsOk; kernel_rfl
section
variable {M : Model} {A : Around} {E : Value → Shared → Prop} {s : Shared}
theorem seen_loop (m : Sre.M) : ∀ (l : List Nat) {Q : PUnit → Shared → Prop}, Q ⟨⟩ s → wpAny M A (forIn l PUnit.unit fun i r => do
      if m.seen.has i = true then do rule (Sre.names.getD i ""); pure PUnit.unit else pure PUnit.unit
      pure (ForInStep.yield PUnit.unit)) Q E s
  | [], _, q => wpAny_pure q
  | i :: l, _, q => by
    rw [List.forIn_cons]
    refine wpAny_bind ?_
    dsimp only
    split
    · exact wpAny_bind (wpAny_rule (wpAny_pure (seen_loop m l q)))
    · exact wpAny_pure (seen_loop m l q)
theorem run_failed (m : Sre.M) (h1 : m.answer = some false) (h2 : m.frames = []) (h3 : m.outcome = none) {Q : Option Sre.M → Shared → Prop} (q : Q none s) : wpAny M A (reRunToEnd m) Q E s := by
  obtain ⟨code, text, lim, start, lastStart, wholeText, mustAdvance, pc, pos, handed, outermost, marks, lastmark, lastindex, loops, inner, frames, weight, answer, seen, outcome⟩ := m
  simp only at h1 h2 h3
  subst h1 h2 h3
  unfold reRunToEnd
  rw [show (2 : Nat) ^ 64 = 18446744073709551615 + 1 from rfl]
  unfold reDrive
  refine wpAny_bind (wpAny_pure (wpAny_bind (wpAny_mono (Q := fun _ s' => s' = s) (E := E) (seen_loop _ _ rfl) (fun _ s' e => ?_) fun _ _ e => e)))
  subst e
  exact wpAny_pure q
end
noncomputable def nameCode : Array Nat := #[14, 10, 4, 1, 1, 22, 0, 31, 16, 127, 0, 13, 7, 22, 0, 31, 16, 127, 0, 1]
noncomputable def valCode : Array Nat := #[14, 14, 4, 1, 1, 9, 4294966783, 0, 0, 2147483648, 0, 0, 0, 0, 0, 13, 11, 9, 4294966783, 0, 0, 2147483648, 0, 0, 0, 0, 0, 1]
noncomputable def Refuses (code : Array Nat) : Prop := ∀ c, 32 ≤ c → c < 127 → ∀ seen, ∃ seen', Sre.inSet code c code.size 5 true seen = .ok (false, seen')
theorem refuses_name : Refuses nameCode := by
  intro c h1 h2 seen
  have e1 : (decide (0 ≤ c) && decide (c ≤ 31)) = false := by simp; omega
  have e2 : (c == 127) = false := by simp; omega
  refine ⟨((seen.add 22).add 16).add 0, ?_⟩
  show Sre.inSet nameCode c (17 + 1 + 1 + 1) 5 true seen = _
  unfold Sre.inSet
  show (if (decide (0 ≤ c) && decide (c ≤ 31)) = true then _ else Sre.inSet nameCode c (17 + 1 + 1) 8 true _) = _
  rw [e1]
  simp only [Bool.false_eq_true, if_false]
  unfold Sre.inSet
  show (if (c == 127) = true then _ else Sre.inSet nameCode c (17 + 1) 10 true _) = _
  rw [e2]
  simp only [Bool.false_eq_true, if_false]
  unfold Sre.inSet
  rfl
theorem refuses_val : Refuses valCode := by
  intro c h1 h2 seen
  have key : ∀ c : Fin 127, 32 ≤ c.val → (decide (c.val < 256) && (valCode.getD (5 + (1 + c.val / 32)) 0).testBit (c.val % 32)) = false := by decide +kernel
  have e1 := key ⟨c, h2⟩ h1
  refine ⟨(seen.add 9).add 0, ?_⟩
  show Sre.inSet valCode c (26 + 1 + 1) 5 true seen = _
  unfold Sre.inSet
  show (if (decide (c < 256) && (valCode.getD (5 + (1 + c / 32)) 0).testBit (c % 32)) = true then _ else Sre.inSet valCode c (26 + 1) 14 true _) = _
  rw [e1]
  simp only [Bool.false_eq_true, if_false]
  unfold Sre.inSet
  rfl
theorem admitted_none {m : Sre.M} (hr : Refuses m.code) (ht : ∀ i, i < m.lim → 32 ≤ m.text.getD i 0 ∧ m.text.getD i 0 < 127) : ∀ (fuel i : Nat) (seen : Sre.Seen), ∃ seen', Sre.M.admitted m fuel i seen = .ok (none, seen')
  | 0, i, seen => ⟨seen, rfl⟩
  | fuel + 1, i, seen => by
    unfold Sre.M.admitted
    split
    · exact ⟨seen, rfl⟩
    · rename_i h
      obtain ⟨h1, h2⟩ := ht i (by omega)
      obtain ⟨seen', e⟩ := hr _ h1 h2 seen
      rw [e]
      exact admitted_none hr ht fuel i.succ seen'
theorem search_none {code : Array Nat} (hc : code = nameCode ∨ code = valCode) {text : Array Nat} (ht : ∀ i, i < text.size → 32 ≤ text.getD i 0 ∧ text.getD i 0 < 127) :
    (Sre.forSearch code text 0 0 text.size false).answer = some false ∧ (Sre.forSearch code text 0 0 text.size false).frames = [] ∧ (Sre.forSearch code text 0 0 text.size false).outcome = none := by
  have hr : Refuses code := by rcases hc with rfl | rfl; exact refuses_name; exact refuses_val
  have hh : (Sre.header code).1 = 1 := by rcases hc with rfl | rfl <;> rfl
  unfold Sre.forSearch
  simp only [hh]
  split
  · exact ⟨rfl, rfl, rfl⟩
  · unfold Sre.M.attemptFrom
    have hf : ∀ m : Sre.M, m.code = code → ¬ ((!m.hasFirstSet) = true) := fun m e => by
      unfold Sre.M.hasFirstSet
      rw [e]
      rcases hc with rfl | rfl <;> decide
    have ad : ∀ {m : Sre.M} {fuel i : Nat} {seen : Sre.Seen} {r : Except String (Option Nat × Sre.Seen)}, Sre.M.admitted m fuel i seen = r → m.code = code → m.text = text → m.lim = text.size → ∃ seen', r = .ok (none, seen') := fun {m fuel i seen r} e e1 e2 e3 => by
      obtain ⟨seen', e'⟩ := admitted_none (m := m) (e1 ▸ hr) (fun i hi => e2 ▸ ht i (e3 ▸ hi)) fuel i seen
      exact ⟨seen', e ▸ e'⟩
    rw [if_neg (hf _ rfl)]
    simp only
    split
    · rename_i e
      obtain ⟨seen', e'⟩ := ad e rfl rfl rfl
      cases e'
    · exact ⟨rfl, rfl, rfl⟩
    · rename_i e
      obtain ⟨seen', e'⟩ := ad e rfl rfl rfl
      cases e'
section
variable {prog : Program} {w : World} {A : Around} {s : Shared}
theorem clean_at {z : Str} (h : cleanS z = true) : z.cps.size ≤ bigN ∧ ∀ i, i < z.cps.size → 32 ≤ z.cps.getD i 0 ∧ z.cps.getD i 0 < 127 := by
  simp only [cleanS, Bool.and_eq_true, decide_eq_true_eq, List.all_eq_true] at h
  refine ⟨h.1, fun i hi => ?_⟩
  have := h.2 z.cps[i] (by simp)
  simpa [Array.getD, hi] using this
structure IsPat (h : Heap) (a : Addr) (code : Array Nat) : Prop where
  pat : ∃ op pt fl u u1 u2 c, h.get? a = some op ∧ op.cls = .type "re.Pattern" ∧ op.dict = none ∧ op.data = .fields #[pt, .int fl u, .int 0 u1, .none, .none, .ref c, .int 0 u2] ∧
    ∃ oc items n, h.get? c = some oc ∧ oc.data = .seq items n ∧ items.map (fun v => (reRawOf v).toNat) = code
theorem IsPat.ext {h h' : Heap} {a : Addr} {code : Array Nat} (x : IsPat h a code) (e : Ext h h') : IsPat h' a code := by
  obtain ⟨op, pt, fl, u, u1, u2, c, h1, h2, h2', h3, oc, items, n, h4, h5, h6⟩ := x.pat
  exact ⟨op, pt, fl, u, u1, u2, c, e _ _ h1, h2, h2', h3, oc, items, n, e _ _ h4, h5, h6⟩
theorem search_ok {a : Addr} {code : Array Nat} {z : Str} {t : Tok} (hp : IsPat s.heap a code) (hc : code = nameCode ∨ code = valCode) (hz : cleanS z = true) {Q : Value → Shared → Prop} (q : Q .none s) :
    wpAny (model prog w) A (call (.builtin "re.Pattern.search") [.ref a, .str z t]) Q NoE s := by
  obtain ⟨op, pt, fl, u, u1, u2, c, h1, h2, _, h3, oc, items, n, h4, h5, h6⟩ := hp.pat
  obtain ⟨hl, hcl⟩ := clean_at hz
  refine wpAny_call (codeAny_call_builtin slot_pat_search.plain entry_pat_search (slot_pat_search.check _ _ _ _ _ _ _ _ ⟨_, h1, h2⟩ (args_pat_search _ _) ?_))
  have e1 : reNamed "re.Pattern.search" "search" ["string", "pos", "endpos"] 1 [.str z t] [] = pure [some (.str z t), none, none] := by kernel_rfl
  have e2 : reTextOf (.str z t) = pure (z.cps, 0) := by rfl
  unfold Builtin.«re.Pattern.search» reTarget
  refine wpAny_bind ?_
  simp only [e1, e2]
  refine wpAny_bind (wpAny_pure (wpAny_bind (wpAny_pure (wpAny_bind (wpAny_pure (wpAny_bind (wpAny_fieldsOf h1 h3 (wpAny_bind (wpAny_pure ?_)))))))))
  have e3 : reNoCollectionInside (.str z t) 0 = pure () := by rfl
  have b1 : (reRawNat ((#[pt, .int fl u, .int 0 u1, .none, .none, .ref c, .int 0 u2] : Array Value).getD 6 .none) == 0 && ((z.cps, 0) : Array Nat × Nat).2 == 1) = false := by rfl
  have b2 : (reRawNat ((#[pt, .int fl u, .int 0 u1, .none, .none, .ref c, .int 0 u2] : Array Value).getD 6 .none) == 1 && ((z.cps, 0) : Array Nat × Nat).2 == 0) = false := by rfl
  rw [b1, if_neg (by decide), b2, if_neg (by decide)]
  show wpAny _ _ (reNoCollectionInside (.str z t) 0 >>= _) _ _ _
  rw [e3]
  refine wpAny_bind (wpAny_pure (wpAny_bind ?_))
  show wpAny _ _ (reRawItems (.ref c)) _ _ _
  unfold reRawItems
  refine wpAny_bind (wpAny_seqItems h4 h5 (wpAny_pure (wpAny_pure ?_)))
  have hlim : min ((2 : Int) ^ 63 - 1).toNat z.cps.size = z.cps.size := by
    have : ((2 : Int) ^ 63 - 1).toNat = 9223372036854775807 := by decide
    rw [this]; unfold bigN at hl; omega
  have hcode : Array.map (fun x => x.toNat) (Array.map reRawOf items) = code := by
    rw [← h6, Array.map_map]; rfl
  have hs := search_none hc hcl
  unfold reAnswer
  dsimp only [Option.getD_some]
  rw [hcode, hlim, show Min.min (Int.toNat 0) z.cps.size = 0 from Nat.zero_min _]
  exact wpAny_bind (run_failed _ hs.1 hs.2.1 hs.2.2 (wpAny_pure q))
end
end Mine
end
section
open PySem PySem.W PySem.Calls PyProof.Rows Builtin Builtin.Re
set_option Elab.async false
set_option maxRecDepth 100000
namespace Mine
section
variable {prog : Program} {w : World} {K : Frag} {hB : Heap} {A : Around} {s : Shared} {env : Env} {m : Str → Option Value} {z : Str} {t : Tok} {b : Bool} {a1 a2 : Addr} {v : Value}
theorem gname {x : Str} {pos : Pos} {v : Value} {Q : Value → Shared → Prop} {p : Program} {loose : List Str} {mg mb : Str → Option Value} (TR : TopRead p loose mg mb hB) (X : K.In hB) (hk : env.scope.kind = .function) (hg : env.globals = mainGlobals) (he : Ext hB s.heap) (hx : env.kindOf x = some .globalImplicit) (hp : (x == ("__debug__" : Str)) = false)
    (e : nsIn K mainGlobals x = some (some v)) (q : Q v s) : wpAny (model prog w) A (eval (.Name x pos) env) Q NoE s :=
  Name_function_global hk hx (loadGlobal_global (by rw [hg]; exact TR.g.keeps he) (mg_of X TR.g e) q) hp
theorem bname {x : Str} {pos : Pos} {v : Value} {Q : Value → Shared → Prop} {p : Program} {loose : List Str} {mg mb : Str → Option Value} (TR : TopRead p loose mg mb hB) (X : K.In hB) (hk : env.scope.kind = .function) (hg : env.globals = mainGlobals) (hb : env.builtins = builtinsNs) (he : Ext hB s.heap) (hx : env.kindOf x = some .globalImplicit) (hp : (x == ("__debug__" : Str)) = false)
    (e : nsIn K mainGlobals x = some none) (hv : bootBuiltins x = some v) (hn : x ≠ "__name__") (q : Q v s) : wpAny (model prog w) A (eval (.Name x pos) env) Q NoE s :=
  Name_function_global hk hx (loadGlobal_builtin (by rw [hg]; exact TR.g.keeps he) (mg_none_of X TR.g e) (by rw [hb]; exact TR.b.keeps he) ((TR.builtins x hn).trans hv) q) hp
theorem lname {x : Str} {pos : Pos} {v : Value} {Q : Value → Shared → Prop} (hk : env.scope.kind = .function) (hl : env.kindOf x = some .local) (hn : s.heap.Ns env.locals m) (hv : m x = some v) (q : Q v s) (hp : (x == ("__debug__" : Str)) = false) : wpAny (model prog w) A (eval (.Name x pos) env) Q NoE s :=
  wpAny_Name (wpAny_loadName_local hk hl hn hv q) hp
noncomputable def convKinds (sc : Scope) : Bool := sc.kind == .function && sc.names.lookup ("value" : Str) == some .local && sc.names.lookup ("name" : Str) == some .local && sc.names.lookup ("regex" : Str) == some .local && sc.names.lookup ("type" : Str) == some .globalImplicit && sc.names.lookup ("str" : Str) == some .globalImplicit &&
  sc.names.lookup ("_name_disallowed_re" : Str) == some .globalImplicit && sc.names.lookup ("_value_disallowed_re" : Str) == some .globalImplicit
theorem conv_run {Q : Flow → Shared → Prop} {p1 p2 p3 p4 p5 p6 p7 p8 p9 p10 p11 p12 p13 p14 p15 p16 p17 p18 p19 : Pos} {rb rest : List Stmt} {p : Program} {loose : List Str} {mg mb : Str → Option Value} (TR : TopRead p loose mg mb hB) (X : K.In hB) (hc : convKinds env.scope = true) (hg : env.globals = mainGlobals) (hb : env.builtins = builtinsNs) (he : Ext hB s.heap) (hh : A.handled = none)
    (hn : s.heap.Ns env.locals m) (hL : hB.get? env.locals = none) (hv : m "value" = some (.str z t)) (hnm : m "name" = some (.bool b)) (kt : nsIn K mainGlobals "type" = some none) (ks : nsIn K mainGlobals "str" = some none)
    (k1 : nsIn K mainGlobals "_name_disallowed_re" = some (some (.ref a1))) (k2 : nsIn K mainGlobals "_value_disallowed_re" = some (some (.ref a2))) (i1 : IsPat hB a1 nameCode) (i2 : IsPat hB a2 valCode) (hz : cleanS z = true) (hline : p13.endLine = p15.line)
    (q : ∀ h' tk, Heap.SameBut env.locals s.heap h' → Q (.ret (.str z t)) { s with heap := h', toks := tk }) :
    wpAny (model prog w) A (execs (Stmt.If (.Compare (.Call (.Name "type" p1) [.Name "value" p2] [] p3) [.Is] [.Name "str" p4] p5) [Stmt.Assign [.Name "regex" p6] (.IfExp (.Name "name" p7) (.Name "_name_disallowed_re" p8) (.Name "_value_disallowed_re" p9) p10) p11,
      Stmt.If (.Call (.Attribute (.Name "regex" p12) "search" p13) [.Name "value" p14] [] p15) rb [] p16, Stmt.Return (some (.Name "value" p17)) p18] [] p19 :: rest) env) Q NoE s := by
  simp only [convKinds, Bool.and_eq_true, beq_iff_eq] at hc
  obtain ⟨⟨⟨⟨⟨⟨⟨hk, c1⟩, c2⟩, c3⟩, c4⟩, c5⟩, c6⟩, c7⟩ := hc
  have hp : (env.scope.kind == .class || (env.scope.kind == .module && env.locals != env.globals)) = false := by rw [hk]; rfl
  refine wpAny_execs_cons (wpAny_If (wpAny_isTrue_Compare1 (wpAny_Call_NameR (bname TR X hk hg hb he c4 (by decide +kernel) kt (v := .type "type") (by decide +kernel) (by decide +kernel) ?_)) rfl))
  refine PyProof.Rows.callWith_type1 (args_cons (lname hk c1 hn hv (args_nil ?_) (by decide +kernel)) rfl) rfl rfl
  refine call_type_of (Tx := "str") (typeIs_str _ _ _) (by decide +kernel) ?_
  refine bname TR X hk hg hb he c5 (by decide +kernel) ks (v := .type "str") (by decide +kernel) (by decide +kernel) ?_
  refine wpAny_is_plain rfl (wpAny_truthy_bool ?_)
  rw [if_pos (by decide)]
  have arm : ∀ (a : Addr) (code : Array Nat), (code = nameCode ∨ code = valCode) → IsPat hB a code → wpAny (model prog w) A (storeName env "regex" (.ref a)) (fun _ s' => wpAny (model prog w) A (execs [Stmt.If (.Call (.Attribute (.Name "regex" p12) "search" p13) [.Name "value" p14] [] p15) rb [] p16, Stmt.Return (some (.Name "value" p17)) p18] env) (fun f s'' => match f with | .next => wpAny (model prog w) A (execs rest env) Q NoE s'' | f => Q f s'') NoE s') NoE s := by
    intro a code hcode hi
    refine wpAny_storeName_local c3 hn (fun h' hn' hs' => ?_) hp
    obtain ⟨op, pt, fl, u, u1, u2, c, o1, o2, o2', o3, _⟩ := hi.pat
    have ext : Ext hB h' := fun b o e => hs'.extBut b o (fun q => by rw [show b = env.locals from q, hL] at e; cases e) (he b o e)
    refine wpAny_execs_cons (wpAny_If (wpAny_isTrue_value (wpAny_Call_method_lateS rfl rfl (by simp [hline]) (lname (v := .ref a) hk c3 hn' (by simp) ?_ (by decide +kernel)))))
    refine ⟨"re.Pattern", "re.Pattern.search", plainAttrs_pat, slot_pat_search, type_pat_search, ⟨_, ext _ _ o1, o2⟩, fun a' q => by cases q; exact ⟨_, ext _ _ o1, o2'⟩, ?_⟩
    refine callWith_method1 (first := [.ref a]) (args_cons (lname hk c1 hn' (by show (if _ then _ else _) = _; rw [if_neg (by decide +kernel)]; exact hv) (args_nil ?_) (by decide +kernel)) rfl) rfl rfl
    refine search_ok (hi.ext ext) hcode hz (truthy_none ?_)
    rw [if_neg (by decide)]
    refine wpAny_execs_nil (wpAny_execs_cons (wpAny_Return_some (lname hk c1 hn' (by show (if _ then _ else _) = _; rw [if_neg (by decide +kernel)]; exact hv) ?_ (by decide +kernel))))
    exact q h' _ hs'
  refine wpAny_execs_cons (wpAny_Assign_Name (wpAny_IfExp (wpAny_isTrue_value (lname hk c2 hn hnm (wpAny_truthy_bool ?_) (by decide +kernel)))) (by rfl))
  cases b with
  | true => exact gname TR X hk hg he c6 (by decide +kernel) k1 (arm a1 nameCode (.inl rfl) i1)
  | false => exact gname TR X hk hg he c7 (by decide +kernel) k2 (arm a2 valCode (.inr rfl) i2)
end
end Mine
end
section
open PySem PySem.W PySem.Calls PyProof.Rows Builtin Builtin.Re
set_option Elab.async false
set_option maxRecDepth 100000
namespace Mine
theorem hdict_new {hs : Int} {t : Tok} {a : Addr} {n : Nat} {cls : Value} {d : Option Addr} {sl : Array (Option Value)} : HDict a ⟨cls, d, .dict #[⟨hs, .str "_headers" t, .ref a⟩] n, sl⟩ := by
  refine ⟨rfl, fun m hm => ?_⟩
  unfold lookIn
  have : ((⟨hs, .str "_headers" t, .ref a⟩ : DictEntry).key.isStr m) = false := by
    show (("_headers" : Str) == m) = false
    simpa using Ne.symm hm
  simp [List.find?_cons, this]
  rfl
noncomputable def initKinds (sc : Scope) : Bool := sc.kind == .function && sc.names.lookup ("self" : Str) == some .local && sc.names.lookup ("headers" : Str) == some .local && sc.names.lookup ("type" : Str) == some .globalImplicit && sc.names.lookup ("list" : Str) == some .globalImplicit && sc.names.all (fun x => x.2 != .cell)
section
variable {prog : Program} {w : World} {K : Frag} {hB : Heap}
theorem new_ok {C fI : Addr} {o : Obj} {fd : FuncData} {p1 p2 p3 p4 p5 p6 p7 p8 p9 p10 p11 p12 p13 p14 p15 p16 p17 p18 p19 p20 p21 p22 : Pos} {k0 k1 : Nat} {rb b4 : List Stmt} {tg : Expr} {p : Program} {loose : List Str} {mg mb : Str → Option Value} (TR : TopRead p loose mg mb hB) (X : K.In hB)
    (hm : makesIn K C = true) (hi : findIn K (.ref C) "__init__" = some (some (.ref fI))) (hf : typeIn K (.ref fI) = some (.type "function")) (ho : hB.get? fI = some o) (hd : o.data = .func fd)
    (hbody : fd.body = .stmts [Stmt.Assign [.Name "headers" p1] (.IfExp (.Compare (.Name "headers" p2) [.IsNot] [.Constant .none k0 p3] p4) (.Name "headers" p5) (.List [] p6) p7) p8,
      Stmt.If (.Compare (.Call (.Name "type" p9) [.Name "headers" p10] [] p11) [.IsNot] [.Name "list" p12] p13) rb [] p14,
      Stmt.Assign [.Attribute (.Name "self" p15) "_headers" p16] (.Name "headers" p17) p18,
      Stmt.If (.Constant (.bool true) k1 p19) [Stmt.For tg (.Name "headers" p20) b4 [] p21] [] p22])
    (hg : fd.globals = mainGlobals) (hbu : fd.builtins = builtinsNs) (hcd : hB.CodeRec fd.code fd.qualname) (hsc : initKinds fd.scope = true) (hco : fd.scope.isCoroutine = false) (hgen : fd.scope.isGenerator = false)
    (hbind : ∀ (s : Shared) (x : Addr), Ext hB s.heap → BindsTo s fd ⟨[.ref x], []⟩ [("self", .ref x), ("headers", .none)])
    (hs : findIn K (.ref C) "__setattr__" = some (some (.builtin "object.__setattr__"))) (hp : plainOver K C = true) (ht : takerIn K C "_headers" = some none) (hh : (clsIn K C).any (·.hasDict) = true)
    (kt : nsIn K mainGlobals ("type" : Str) = some none) (kl : nsIn K mainGlobals ("list" : Str) = some none) : HnOk prog w hB C := by
  intro A s he hr
  simp only [initKinds, Bool.and_eq_true, beq_iff_eq, List.all_eq_true, bne_iff_ne] at hsc
  obtain ⟨⟨⟨⟨⟨hk, c1⟩, c2⟩, c3⟩, c4⟩, c5⟩ := hsc
  obtain ⟨h0, g, dr, t0, os⟩ := s
  have X0 : K.In h0 := X.keeps he
  refine wpAny_call (make_core (makes_of X0 hm) (looks_findIn X0 hi) (fun self => bind_fn X0 self hf) (.inl rfl) ?_)
  generalize hx : h0.objs.size + 1 = x
  generalize hh2 : (h0.push emptyDict).push (instObj C h0.objs.size) = h2
  have e02 : Ext h0 h2 := hh2 ▸ (Ext.push _ _).trans (Ext.push _ _)
  have hs2 : h2.objs.size = h0.objs.size + 2 := by rw [← hh2, Heap.size_push, Heap.size_push]
  have gx : h2.get? x = some (instObj C h0.objs.size) := by
    rw [← hx, ← hh2]
    have : ((h0.push emptyDict).push (instObj C h0.objs.size)).get? (h0.push emptyDict).objs.size = some (instObj C h0.objs.size) := Heap.get?_push_size _ rfl
    rwa [Heap.size_push] at this
  have gd : h2.get? h0.objs.size = some emptyDict := hh2 ▸ Heap.get?_push_of_some _ (Heap.get?_push_size _ rfl)
  have heB2 : Ext hB h2 := he.trans e02
  refine codeAny_call_def (by show A.depth + 1 < recursionLimit; have := hr.depth; unfold recursionLimit; omega) (heB2 _ _ ho) hd (TR.nolimit.keeps heB2) (let ⟨c, o, vs, t, e1, e2, e3⟩ := hcd; ⟨c, o, vs, t, e1, heB2 _ _ e2, e3⟩) hbody (hbind _ _ heB2) c5
    (fun y hy => by simp only [List.mem_cons, List.not_mem_nil, or_false] at hy; rcases hy with rfl | rfl; exact c1; exact c2) (fun h3 hn3 he3 => ?_) hco hgen hk
  generalize hL : h2.objs.size = L at hn3
  have L0 : h0.get? L = none := by
    cases q : h0.get? L with
    | none => rfl
    | some o => exact absurd (Heap.lt_size q) (Nat.not_lt.mpr (by omega))
  generalize henv : callEnv fd L fI = env
  have k' : env.scope.kind = .function := by rw [← henv]; exact hk
  have eL : env.locals = L := by rw [← henv]; rfl
  have eg : env.globals = mainGlobals := by rw [← henv]; exact hg
  have eb : env.builtins = builtinsNs := by rw [← henv]; exact hbu
  have d1 : env.kindOf ("self" : Str) = some .local := by rw [← henv]; exact c1
  have d2 : env.kindOf ("headers" : Str) = some .local := by rw [← henv]; exact c2
  have d3 : env.kindOf ("type" : Str) = some .globalImplicit := by rw [← henv]; exact c3
  have d4 : env.kindOf ("list" : Str) = some .globalImplicit := by rw [← henv]; exact c4
  have hp0 : (env.scope.kind == .class || (env.scope.kind == .module && env.locals != env.globals)) = false := by rw [k']; rfl
  rw [← eL] at hn3
  refine wp_noE ?_
  have heB3 : Ext hB h3 := heB2.trans he3
  have e03 : Ext h0 h3 := e02.trans he3
  -- headers = []
  refine wpAny_execs_cons (wpAny_Assign_Name (wpAny_IfExp (wpAny_isTrue_Compare1 (lname k' d2 hn3 rfl ?_ (by decide +kernel)) rfl)) (by rfl))
  refine wpAny_Constant_none (wpAny_isNot_plain rfl (wpAny_truthy_bool ?_))
  rw [if_neg (by decide)]
  refine List_ (args_nil (wpAny_newObj_type ?_))
  have hn4 := hn3.keeps (Ext.push h3 { cls := .type "list", dict := none, data := .seq ([] : List Value).toArray })
  generalize ha : h3.objs.size = a
  have ga : (h3.push { cls := .type "list", dict := none, data := .seq ([] : List Value).toArray }).get? a = some { cls := .type "list", dict := none, data := .seq ([] : List Value).toArray } := ha ▸ Heap.get?_push_size _ rfl
  have e34 := Ext.push h3 { cls := .type "list", dict := none, data := .seq ([] : List Value).toArray }
  have a3 : h3.get? a = none := ha ▸ get_size_none h3
  generalize h3.push { cls := .type "list", dict := none, data := .seq ([] : List Value).toArray } = h4 at hn4 ga e34 ⊢
  refine wpAny_storeName_local d2 hn4 (fun h5 hn5 hs5 => ?_) hp0
  rw [eL] at hn5 hs5
  have keep5 : ∀ b o, b ≠ L → h3.get? b = some o → h5.get? b = some o := fun b o n q => hs5.extBut b o n (e34 b o q)
  have hxL : x ≠ L := by omega
  have hdL : h0.objs.size ≠ L := by omega
  have haL : a ≠ L := fun q => by
    obtain ⟨o, _, _, ho', _⟩ := hn3
    rw [eL] at ho'; rw [q, show h3.get? L = some o from ho'] at a3; cases a3
  have gx5 : h5.get? x = some (instObj C h0.objs.size) := keep5 _ _ hxL (he3 _ _ gx)
  have gd5 : h5.get? h0.objs.size = some emptyDict := keep5 _ _ hdL (he3 _ _ gd)
  have ga5 : h5.get? a = some { cls := .type "list", dict := none, data := .seq ([] : List Value).toArray } := hs5.extBut _ _ haL ga
  have e05 : Ext h0 h5 := fun b o q => keep5 b o (fun z => by rw [z, L0] at q; cases q) (e03 b o q)
  have heB5 : Ext hB h5 := he.trans e05
  have X5 : K.In h5 := X.keeps heB5
  -- type(headers) is not list
  refine wpAny_execs_cons (wpAny_If (wpAny_isTrue_Compare1 (wpAny_Call_NameR (bname TR X k' eg eb heB5 d3 (by decide +kernel) kt (v := .type "type") (by decide +kernel) (by decide +kernel) ?_)) rfl))
  refine PyProof.Rows.callWith_type1 (args_cons (lname (v := .ref a) k' d2 (eL ▸ hn5) (by simp) (args_nil ?_) (by decide +kernel)) rfl) rfl rfl
  refine call_type_of (Tx := "list") ⟨_, ga5, rfl⟩ (by decide +kernel) ?_
  refine bname TR X k' eg eb heB5 d4 (by decide +kernel) kl (v := .type "list") (by decide +kernel) (by decide +kernel) ?_
  refine wpAny_isNot_plain rfl (wpAny_truthy_bool ?_)
  rw [if_neg (by decide)]
  refine wpAny_execs_nil ?_
  -- self._headers = headers
  refine wpAny_execs_cons (plainObj_wpAny_Assign_Attribute (lname (v := .ref a) k' d2 (eL ▸ hn5) (by simp) (lname (v := .ref x) k' d1 (eL ▸ hn5) ?_ ?_ (by decide +kernel)) (by decide +kernel)) rfl)
  · show (if _ then _ else _) = _
    rw [if_neg (by decide +kernel)]; rfl
  have hx0 : h0.get? x = none := by
    cases q : h0.get? x with
    | none => rfl
    | some o => exact absurd (Heap.lt_size q) (Nat.not_lt.mpr (by omega))
  have ha0 : h0.get? a = none := by
    cases q : h0.get? a with
    | none => rfl
    | some o => have := e03 a o q; rw [a3] at this; cases this
  have F : Fr h0 L h5 _ := ⟨hn5, e05, by omega⟩
  have N : News h0 L h5 ([(x, instObj C h0.objs.size)] ++ (h0.objs.size, emptyDict) :: [(a, { cls := .type "list", dict := none, data := .seq ([] : List Value).toArray })]) := by
    intro q hq
    simp only [List.mem_append, List.mem_cons, List.not_mem_nil, or_false] at hq
    rcases hq with rfl | rfl | rfl
    · exact ⟨gx5, hxL, hx0⟩
    · exact ⟨gd5, hdL, get_size_none h0⟩
    · exact ⟨ga5, haL, ha0⟩
  have I5 : InstAt h5 x (instObj C h0.objs.size) C (some emptyDict) := ⟨gx5, rfl, rfl, gd5⟩
  refine set_plain X5 I5 hs ?_
  have had : a ≠ h0.objs.size := fun q => by rw [q, he3 _ _ gd] at a3; cases a3
  refine osa_dict F N X5 I5 rfl hp ht hh rfl (fun q hq => ?_) (fun q hq => ?_) rfl rfl (show 1 ≤ 1000 by decide) fun h6 F6 N6 => ?_
  · simp only [List.mem_cons, List.not_mem_nil, or_false] at hq; subst hq; show x ≠ _; omega
  · simp only [List.mem_cons, List.not_mem_nil, or_false] at hq; subst hq; exact had
  -- if __debug__
  have gx6 := (N6 (x, instObj C h0.objs.size) (by simp)).1
  have gd6 := (N6 _ (List.mem_append_right _ (List.mem_cons_self ..))).1
  have ga6 := (N6 (a, { cls := .type "list", dict := none, data := .seq ([] : List Value).toArray }) (by simp)).1
  have e06 : Ext h0 h6 := F6.keep
  show wpAny _ _ (execs [Stmt.If (.Constant (.bool true) k1 p19) [Stmt.For tg (.Name "headers" p20) b4 [] p21] [] p22] env) _ _ _
  refine wpAny_execs_cons (wpAny_If (wpAny_isTrue_value (wpAny_Constant_bool (wpAny_truthy_bool ?_)) (by rfl)))
  rw [if_pos (by decide)]
  refine wpAny_execs_cons (wpAny_For (lname (v := .ref a) k' d2 (eL ▸ F6.ns) (by simp) ?_ (by decide +kernel)) (fun _ => rfl))
  refine wpAny_pyIter_list (items := #[]) ⟨_, ga6, rfl, 0, rfl⟩ ?_
  have hh : (A.under (.builtin "type.__call__" ⟨.ref C :: [], []⟩)).handled = none := hr.handled
  refine codeAny_forLoopT (fun n s' => n = 0 ∧ s' = _) ?_ 0 ⟨rfl, rfl⟩
  rintro n s₂ ⟨rfl, rfl⟩
  refine wpAny_pyNext_list_end (items := #[]) (by first | exact hr.handled | exact hh) ⟨_, Heap.get?_push_size _ rfl, rfl, rfl⟩ ⟨_, Heap.get?_push_of_some _ ga6, rfl, 0, rfl⟩ rfl fun h' he' => ?_
  have k6 : ∀ b o, h6.get? b = some o → h'.get? b = some o := fun b o q => he' b o (Nat.ne_of_lt (Heap.lt_size q)) (Heap.get?_push_of_some _ q)
  refine wpAny_execs_nil (wpAny_execs_nil (wpAny_execs_nil ⟨rfl, ?_⟩))
  refine ⟨a, ⟨h', _, rfl, e06.trans k6⟩, ha0, ⟨0, k6 _ _ ga6⟩, x, h0.objs.size, _, _, rfl, ⟨hx0, ?_⟩, ⟨get_size_none h0, Ne.symm had⟩, k6 _ _ gx6, rfl, rfl, rfl, k6 _ _ gd6, hdict_new⟩
  intro q; rw [← q, gx5] at ga5; cases ga5
end
end Mine
end
section
open PySem PySem.W PySem.Calls PyProof.Rows
set_option Elab.async false
set_option maxRecDepth 100000
namespace Mine
section
variable {prog : Program} {w : World} {K : Frag} {hB hb : Heap} {T : Tab} {Γ : Nat → List PyData → Option PyData} {hG : Hs} {k : Nat} {sm pn : List (Str × Nat)}
theorem comp_new {env : Env} {pl : Nat → Place} {σ : Loc} {P : Addr → Prop} {A : Around} {s : Shared} {ds : List PyData} {elt : IE} {t : Tgt} {it : IT} {ifs : IEs} {sc : Scope} {sm' : List (Str × Nat)} {p : Pos} (B : Base prog w K hB T Γ hG k)
    (hw : wf T env.scope.names sm (.comp elt t it ifs sc sm' p) = true) (H : Here env pl sm σ hB P A k s) (e : ev Γ hG (.comp elt t it ifs sc sm' p) σ = some (.list ds)) :
    wpAny (model prog w) A (eval (IE.comp elt t it ifs sc sm' p).ast env) (fun v s' => ∃ D ys, v = .ref D ∧ s.heap.get? D = none ∧ Kp s s' ∧ s'.heap.PlainList D (List.toArray ys) ∧ RVs P s'.heap ds ys) NoE s := by
  show wpAny _ _ (eval (.ListComp elt.ast [⟨t.ast, it.ast, ifs.ast, 0⟩] sc p) env) _ _ _
  rw [eval_ListComp]
  refine comp_use (use := none) B hw H e fun s₁ ds' D C s' hd k₁ b => ?_
  cases hd
  obtain ⟨hD, hC, hDC, ⟨m, hn⟩, ⟨ys, hpl, hr⟩, kp⟩ := b
  have hD0 : s.heap.get? D = none := by
    cases q : s.heap.get? D with
    | none => rfl
    | some o => have := k₁.ext D o q; rw [hD] at this; cases this
  refine ⟨m, hn, fun h'' hs'' => ⟨D, ys, rfl, hD0, k₁.trans ?_, ?_, ?_⟩⟩
  · obtain ⟨h', tk, rfl, hext⟩ := kp
    exact ⟨h'', tk, rfl, fun b o eb => hs''.extBut b o (fun q => by rw [q, hC] at eb; cases eb) (hext b o eb)⟩
  · obtain ⟨n, ho⟩ := hpl; exact ⟨n, hs''.extBut _ _ hDC ho⟩
  · exact hr.map fun a o q eb => ⟨q.1, hs''.extBut _ _ q.2.1 eb⟩
theorem hr_list_ok {f : Addr} {o : Obj} {fd : FuncData} {pre : Option IS} {elt : IE} {t : Tgt} {it : IT} {ifs : IEs} {sc : Scope} {sm' : List (Str × Nat)} {pc p : Pos} {N : Nat} {spec : List PyData → List PyData → Option PyData} (B : Base prog w K hB T Γ hG k) (ho : hB.get? f = some o) (hd : o.data = .func fd)
    (hbody : fd.body = .stmts ((pre.map IS.ast).toList ++ [.Return (some (IE.comp elt t it ifs sc sm' pc).ast) p])) (hclo : fd.closure = []) (hg : fd.globals = mainGlobals) (hbu : fd.builtins = builtinsNs)
    (hcd : hB.CodeRec fd.code fd.qualname) (hs : fnSm fd.scope sm pn = true) (hw1 : pre.all (wfS T fd.scope.names sm) = true) (hw2 : wf T fd.scope.names sm (.comp elt t it ifs sc sm' pc) = true)
    (hbind : ∀ vs : List Value, vs.length = pn.length → bindArgs fd ⟨vs, []⟩ = pure ((pn.map (·.1)).zip vs))
    (hspec : ∀ kvs ds d, spec kvs ds = some d → ds.length + 1 = pn.length ∧ ∃ xs σ', d = .list xs ∧ (∀ x ∈ xs, flatD x = true) ∧ (match pre with | none => some (Fl.next, putL pn (.hr hG.cls kvs :: ds.map .d) (List.replicate N none)) | some st => ex Γ hG st (putL pn (.hr hG.cls kvs :: ds.map .d) (List.replicate N none))) = some (.next, σ') ∧
      ev Γ hG (.comp elt t it ifs sc sm' pc) σ' = some (.list xs)) : HrOk prog w hB hG.cls f spec (k + 1) := by
  intro A s P v kvs vs ds d hB' hr hf hv hvs he
  obtain ⟨hl, xs, σ', rfl, hflat, hpre, hev⟩ := hspec kvs ds d he
  obtain ⟨a, ws, hi, hli, hrs⟩ := hv
  have h3 : ∀ x ∈ sm, sm.lookup x.1 = some x.2 := by
    have hs' := hs
    simp only [fnSm, Bool.and_eq_true, beq_iff_eq, Bool.not_eq_true', decide_eq_true_eq, List.all_eq_true, Bool.or_eq_true] at hs'
    exact hs'.1.1.1.2
  have hlen : (v :: vs).length = pn.length := by rw [List.length_cons, hvs.length, hl]
  refine call_ok (N := N) B ho hd hbody hclo hg hbu hcd hs hB' hr ?_
  rw [hbind _ hlen]
  refine wpAny_pure ⟨v :: vs, .hr hG.cls kvs :: ds.map .d, fun _ => none, fun b => P b ∨ b = a, s.heap, rfl, hlen, by simp; omega, hB', Ext.refl _, hB', fun b q => .inl (hf b q), fun i a h => (nomatch h), fun i j a h => (nomatch h), fun j t l _ e => ?_, fun A' env s₂ hsc R kp hm => ?_⟩
  · cases j with
    | zero =>
      cases e
      exact ⟨v, rfl, a, ws, hi.map fun b o p q => ⟨⟨.inl p, fun _ z => (nomatch z)⟩, q⟩, ⟨.inr rfl, fun _ z => (nomatch z)⟩, hli, hrs.mono fun b p => ⟨.inl p, fun _ z => (nomatch z)⟩⟩
    | succ j =>
      rw [List.getElem?_cons_succ, List.getElem?_map] at e
      obtain ⟨d', e', rfl⟩ := Option.map_eq_some_iff.mp e
      obtain ⟨u, e2, r⟩ := hvs.get e'
      exact ⟨u, by simpa using e2, r.mono fun b p => ⟨.inl p, fun _ z => (nomatch z)⟩⟩
  · -- the last statement
    have last : ∀ (own' : Nat → Option Addr) (s₃ : Shared), Rel env (plOf env sm) sm hB s.heap (fun b => P b ∨ b = a) A' k σ' own' s₃ → Kp s s₃ → wpAny (model prog w) A' (execs [.Return (some (IE.comp elt t it ifs sc sm' pc).ast) p] env) (fun f s' => Gv P s (.list xs) (match f with | .ret v => v | _ => .none) s') NoE s₃ := by
      intro own' s₃ R₃ k₃
      refine wpAny_execs_cons (wpAny_Return_some (wpAny_mono (comp_new B (by rw [hsc]; exact hw2) R₃.here hev) (fun u s₄ g => ?_) fun _ _ f => f))
      obtain ⟨D, ys, rfl, hD, k₄, ⟨n, hp⟩, r⟩ := g
      have hD0 : s.heap.get? D = none := by
        cases q : s.heap.get? D with
        | none => rfl
        | some o => have := k₃.ext D o q; rw [hD] at this; cases this
      exact ⟨k₃.trans k₄, RV.list (hf D hD0) ⟨_, hp, rfl, n, rfl⟩ (rvs_flat hflat r)⟩
    cases pre with
    | none =>
      simp only [Option.some.injEq, Prod.mk.injEq, true_and] at hpre
      subst hpre
      exact last _ _ R kp
    | some st =>
      refine wpAny_execs_cons (wpAny_mono (ex_ok B h3 st _ _ _ s₂ _ _ (by rw [hsc]; exact hw1) R hpre) (fun fl' s₃ g => ?_) fun _ _ f => f)
      obtain ⟨own', R', o', w', rfl⟩ := g
      refine last own' s₃ R' ?_
      obtain ⟨h₁, tk₁, rfl, hkeep⟩ := kp
      obtain ⟨⟨h', tk', rfl⟩, o2, o3⟩ := o'
      exact ⟨h', tk', rfl, fun b ob e => o2 b ob (hkeep b ob e) (hm b ob e) fun _ z => (nomatch z)⟩
theorem hw_ok {f : Addr} {o : Obj} {fd : FuncData} {body : ISs} {N : Nat} {ed : Bool} {sn : Str} {spec : List PyData → List PyData → Option (List PyData × PyData)} (B : Base prog w K hB T Γ hG k) (ho : hB.get? f = some o) (hd : o.data = .func fd)
    (hbody : fd.body = .stmts body.ast) (hclo : fd.closure = []) (hg : fd.globals = mainGlobals) (hbu : fd.builtins = builtinsNs)
    (hcd : hB.CodeRec fd.code fd.qualname) (hs : fnSm fd.scope sm pn = true) (hw : wfSs T fd.scope.names sm body = true) (hself : sm.lookup sn = some 0) (hpn : pn.head? = some (sn, 0)) (hsys : ∃ b o, sysModules ≤ b ∧ hB.get? b = some o)
    (hbind : ∀ vs : List Value, vs.length + (if ed then 1 else 0) = pn.length → bindArgs fd ⟨vs, []⟩ = if ed then (alloc { cls := .type "dict", data := .dict #[] } >>= fun d => pure ((pn.map (·.1)).zip (vs ++ [.ref d]))) else pure ((pn.map (·.1)).zip vs))
    (hspec : ∀ kvs ds kvs' d, spec kvs ds = some (kvs', d) → ds.length + 1 + (if ed then 1 else 0) = pn.length ∧ ∀ a, ∃ fl σ', exs Γ hG body (putL pn (.hd hG.cls (some a) kvs :: (ds.map .d ++ if ed then [.ed] else [])) (List.replicate N none)) = some (fl, σ') ∧ fl.val = d ∧ σ'.at 0 = some (.hd hG.cls (some a) kvs')) :
    HwOk prog w hB hG.cls f spec (k + 1) := by
  intro A s P v a ws kvs vs ds kvs' d hB' hr hf hi hna hBa hpl hrs hvs he
  obtain ⟨hl, hex⟩ := hspec kvs ds kvs' d he
  obtain ⟨fl, σ', hex, hfl, hσ⟩ := hex a
  have hvl := hvs.length
  have hlen : (v :: vs).length + (if ed then 1 else 0) = pn.length := by rw [List.length_cons, hvl, hl]
  have ha : ∃ o, s.heap.get? a = some o := let ⟨n, h⟩ := hpl; ⟨_, h⟩
  refine body_ok (N := N) B ho hd hbody hclo hg hbu hcd hs hw hB' hr ?_
  rw [hbind _ hlen]
  have own1 : ∀ i b, (if i = 0 then some a else none) = some b → i = 0 ∧ b = a := fun i b q => by
    by_cases z : i = 0
    · rw [if_pos z] at q; cases q; exact ⟨z, rfl⟩
    · rw [if_neg z] at q; cases q
  -- the rest, whatever the binding made
  have rest : ∀ (s₁ : Shared) (us : List Value) (ls : List LV), Kp s s₁ → us.length = ls.length → (v :: (vs ++ us)).length = pn.length → exs Γ hG body (putL pn (.hd hG.cls (some a) kvs :: (ds.map .d ++ ls)) (List.replicate N none)) = some (fl, σ') →
      (∀ (j i : Nat) l, ls[j]? = some l → ∃ u, us[j]? = some u ∧ LVo (fun b => (P b ∨ b = a) ∧ ∀ i, (if i = 0 then some a else none) ≠ some b) (fun i => if i = 0 then some a else none) s₁.heap i l u) →
      ∃ (vs' : List Value) (ls' : List LV) (own : Nat → Option Addr) (P₀ : Addr → Prop) (hb : Heap) (fl : Fl) (σ' : Loc), (pn.map (·.1)).zip (v :: (vs ++ us)) = (pn.map (·.1)).zip vs' ∧ vs'.length = pn.length ∧ ls'.length = pn.length ∧ Ext hB hb ∧ Ext hb s₁.heap ∧ Ext hB s₁.heap ∧ Fresh P₀ s₁.heap ∧
      (∀ i a, own i = some a → hb.get? a = none ∧ P₀ a ∧ ∃ ws, s₁.heap.PlainList a ws) ∧ (∀ i j a, own i = some a → own j = some a → i = j) ∧
      (∀ (j : Nat) t l, pn[j]? = some t → ls'[j]? = some l → ∃ v, vs'[j]? = some v ∧ LVo (fun b => P₀ b ∧ ∀ i, own i ≠ some b) own s₁.heap t.2 l v) ∧
      exs Γ hG body (putL pn ls' (List.replicate N none)) = some (fl, σ') ∧
      ∀ v s' own', (∃ h' tk, s' = { s₁ with heap := h', toks := tk }) → (∀ b o, s₁.heap.get? b = some o → (∀ i, own i ≠ some b) → s'.heap.get? b = some o) → RV (fun b => P₀ b ∧ ∀ i, own' i ≠ some b) s'.heap fl.val v →
        (∀ i l x, sm.lookup x = some i → σ'.at i = some l → ∃ u, LVo (fun b => P₀ b ∧ ∀ i, own' i ≠ some b) own' s'.heap i l u) → (∀ i a, own' i = some a → (∃ j, own j = some a) ∨ s₁.heap.get? a = none) →
        ∃ h' tk ws', s' = { s with heap := h', toks := tk } ∧ (∀ b o, b ≠ a → s.heap.get? b = some o → h'.get? b = some o) ∧ h'.PlainList a (List.toArray ws') ∧ RVs P h' kvs' ws' ∧ RV P h' d v := by
    intro s₁ us ls kp hul hln hex' hus
    have e₁ := kp.ext
    have old : ∀ b o, P b → s.heap.get? b = some o → ((P b ∨ b = a) ∧ ∀ i, (if i = 0 then some a else none) ≠ some b) ∧ s₁.heap.get? b = some o := fun b o p q => ⟨⟨.inl p, fun i z => hna ((own1 i b z).2 ▸ p)⟩, e₁ b o q⟩
    refine ⟨v :: (vs ++ us), .hd hG.cls (some a) kvs :: (ds.map .d ++ ls), fun i => if i = 0 then some a else none, fun b => P b ∨ b = a, hB, fl, σ', rfl, hln, by simp only [List.length_cons, List.length_append, List.length_map] at hln ⊢; omega, Ext.refl _, hB'.trans e₁, hB'.trans e₁,
      fun b q => .inl (hf.ext e₁ b q), fun i b q => ?_, fun i j b q q' => (own1 i b q).1.trans (own1 j b q').1.symm, fun j t l ht e => ?_, hex', fun u s' own' hs' hk hv' hsl _ => ?_⟩
    · obtain ⟨_, rfl⟩ := own1 i b q
      obtain ⟨n, h⟩ := hpl
      exact ⟨hBa, .inr rfl, _, n, e₁ _ _ h⟩
    · cases j with
      | zero =>
        cases e
        have : t.2 = 0 := by
          cases pn with
          | nil => cases ht
          | cons t0 r => simp only [List.getElem?_cons_zero, Option.some.injEq] at ht; subst ht; simp only [List.head?_cons, Option.some.injEq] at hpn; rw [hpn]
        rw [this]
        obtain ⟨n, h⟩ := hpl
        exact ⟨v, rfl, a, ws, fun x q => by cases q; rfl, hi.map old, by simp, ⟨n, e₁ _ _ h⟩, hrs.map old⟩
      | succ j =>
        rw [List.getElem?_cons_succ] at e
        by_cases hj : j < ds.length
        · rw [List.getElem?_append_left (by simpa using hj), List.getElem?_map] at e
          obtain ⟨d', e', rfl⟩ := Option.map_eq_some_iff.mp e
          obtain ⟨u, e2, r⟩ := hvs.get e'
          exact ⟨u, by rw [List.getElem?_cons_succ, List.getElem?_append_left (by rw [hvl]; exact hj)]; exact e2, r.map old⟩
        · rw [List.getElem?_append_right (by simpa using hj)] at e
          obtain ⟨u, e2, r⟩ := hus _ t.2 l e
          refine ⟨u, ?_, r⟩
          rw [List.getElem?_cons_succ, List.getElem?_append_right (by rw [hvl]; omega), hvl]
          simpa using e2
    · obtain ⟨h', tk, rfl⟩ := hs'
      obtain ⟨h1, t1, rfl, _⟩ := kp
      obtain ⟨u', a', ws', hz, hi', ho', hpl', hr'⟩ := hsl 0 _ sn hself hσ
      have ea : a' = a := hz a rfl
      subst ea
      have up : ∀ b, ((P b ∨ b = a') ∧ ∀ i, own' i ≠ some b) → P b := fun b q => q.1.resolve_right fun z => q.2 0 (z ▸ ho')
      refine ⟨h', tk, ws', rfl, fun b ob n q => hk b ob (e₁ b ob q) fun i z => n ((own1 i b z).2), hpl', hr'.mono up, ?_⟩
      rw [← hfl]; exact hv'.mono up
  cases ed with
  | false =>
    simp only [Bool.false_eq_true, if_false] at hlen hex ⊢
    refine wpAny_pure ?_
    have := rest s [] [] (Kp.refl _) rfl (by simpa using hlen) hex (fun j i l q => by simp at q)
    simpa using this
  | true =>
    simp only [if_true] at hlen hex ⊢
    refine wpAny_bind (wpAny_alloc (wpAny_pure ?_))
    have hne : (s.heap.objs.size == sysModules) = false := by
      obtain ⟨b, o, hb, ho⟩ := hsys
      have := Nat.lt_of_le_of_lt hb (Heap.lt_size (hB' _ _ ho))
      simpa using (Nat.ne_of_gt this)
    have := rest { s with heap := s.heap.push { cls := .type "dict", data := .dict #[] } } [.ref s.heap.objs.size] [.ed] (Kp.push _ _) rfl (by simp at hlen ⊢; omega) hex (fun j i l q => by
      cases j with
      | zero =>
        cases q
        refine ⟨_, rfl, s.heap.objs.size, rfl, hne, ⟨.inl hf.size, fun i z => ?_⟩, Heap.get?_push_size _ rfl⟩
        obtain ⟨_, z⟩ := own1 i _ z
        obtain ⟨o, ho⟩ := ha
        rw [← z, get_size_none] at ho; cases ho
      | succ j => simp at q)
    simpa using this
end
end Mine
end
section
open PySem PySem.W PySem.Calls PyProof.Rows
set_option Elab.async false
set_option maxRecDepth 100000
namespace Mine
section
variable {prog : Program} {w : World} {K : Frag} {hB : Heap}
theorem conv_contract {f a1 a2 : Addr} {o : Obj} {fd : FuncData} {p1 p2 p3 p4 p5 p6 p7 p8 p9 p10 p11 p12 p13 p14 p15 p16 p17 p18 p19 : Pos} {rb rest : List Stmt} {p : Program} {loose : List Str} {mg mb : Str → Option Value} (TR : TopRead p loose mg mb hB) (X : K.In hB)
    (ho : hB.get? f = some o) (hd : o.data = .func fd)
    (hbody : fd.body = .stmts (Stmt.If (.Compare (.Call (.Name "type" p1) [.Name "value" p2] [] p3) [.Is] [.Name "str" p4] p5) [Stmt.Assign [.Name "regex" p6] (.IfExp (.Name "name" p7) (.Name "_name_disallowed_re" p8) (.Name "_value_disallowed_re" p9) p10) p11,
      Stmt.If (.Call (.Attribute (.Name "regex" p12) "search" p13) [.Name "value" p14] [] p15) rb [] p16, Stmt.Return (some (.Name "value" p17)) p18] [] p19 :: rest))
    (hg : fd.globals = mainGlobals) (hbu : fd.builtins = builtinsNs) (hcd : hB.CodeRec fd.code fd.qualname) (hsc : convKinds fd.scope = true) (hcell : fd.scope.names.all (fun x => x.2 != .cell) = true) (hself : fd.scope.names.lookup ("self" : Str) = some .local) (hco : fd.scope.isCoroutine = false) (hgen : fd.scope.isGenerator = false)
    (hbind : ∀ v z t b, bindArgs fd ⟨[v, .str z t], [("name", .bool b)]⟩ = pure [(("self" : Str), v), (("value" : Str), .str z t), (("name" : Str), .bool b)])
    (kt : nsIn K mainGlobals ("type" : Str) = some none) (ks : nsIn K mainGlobals ("str" : Str) = some none) (k1 : nsIn K mainGlobals ("_name_disallowed_re" : Str) = some (some (.ref a1))) (k2 : nsIn K mainGlobals ("_value_disallowed_re" : Str) = some (some (.ref a2))) (i1 : IsPat hB a1 nameCode) (i2 : IsPat hB a2 valCode) (hline : p13.endLine = p15.line) : ConvOk prog w hB f := by
  intro A s v z t b he hr hz
  have hsc' := hsc
  simp only [convKinds, Bool.and_eq_true, beq_iff_eq] at hsc'
  obtain ⟨⟨⟨⟨⟨⟨⟨hk, c1⟩, c2⟩, c3⟩, c4⟩, c5⟩, c6⟩, c7⟩ := hsc'
  refine wpAny_call (codeAny_call_def (by have := hr.depth; unfold recursionLimit; omega) (he _ _ ho) hd (TR.nolimit.keeps he) (let ⟨c, o, vs, t, e1, e2, e3⟩ := hcd; ⟨c, o, vs, t, e1, he _ _ e2, e3⟩) hbody (.of_eq (hbind v z t b)) (fun x hx => by
      rw [List.all_eq_true] at hcell
      simpa using hcell x hx)
    (fun y hy => by simp only [List.mem_cons, List.not_mem_nil, or_false] at hy; rcases hy with rfl | rfl | rfl; exact hself; exact c1; exact c2) (fun h3 hn3 he3 => ?_) hco hgen hk)
  have hLn : hB.get? s.heap.objs.size = none := by
    cases q : hB.get? s.heap.objs.size with
    | none => rfl
    | some o => have := he _ _ q; rw [get_size_none] at this; cases this
  refine wp_noE (conv_run (env := callEnv fd s.heap.objs.size f) TR X hsc hg hbu (he.trans he3) hr.handled hn3 hLn rfl rfl kt ks k1 k2 i1 i2 hz hline fun h' tk hs' => ?_)
  refine ⟨⟨h', tk, rfl, fun b o q => hs'.extBut b o (fun e => ?_) (he3 b o q)⟩, t, rfl⟩
  rw [show b = s.heap.objs.size from e, get_size_none] at q; cases q
noncomputable def runList (Γ : Nat → List PyData → Option PyData) (hG : Hs) (pre : Option IS) (cmp : IE) (pn : List (Str × Nat)) (N : Nat) (kvs ds : List PyData) : Option PyData :=
  if ds.length + 1 = pn.length then
    match (match pre with | none => some (Fl.next, putL pn (.hr hG.cls kvs :: ds.map .d) (List.replicate N none)) | some st => ex Γ hG st (putL pn (.hr hG.cls kvs :: ds.map .d) (List.replicate N none))) with
    | some (.next, σ') => match ev Γ hG cmp σ' with
      | some (.list xs) => if xs.all flatD then some (.list xs) else none
      | _ => none
    | _ => none
  else none
variable {T : Tab} {Γ : Nat → List PyData → Option PyData} {hG : Hs} {k : Nat} {sm pn : List (Str × Nat)}
theorem hr_run_ok {f : Addr} {o : Obj} {fd : FuncData} {pre : Option IS} {cmp elt : IE} {t : Tgt} {it : IT} {ifs : IEs} {sc : Scope} {sm' : List (Str × Nat)} {pc p : Pos} {N : Nat} (hcmp : cmp = .comp elt t it ifs sc sm' pc) (B : Base prog w K hB T Γ hG k) (ho : hB.get? f = some o) (hd : o.data = .func fd)
    (hbody : fd.body = .stmts ((pre.map IS.ast).toList ++ [.Return (some cmp.ast) p])) (hclo : fd.closure = []) (hg : fd.globals = mainGlobals) (hbu : fd.builtins = builtinsNs)
    (hcd : hB.CodeRec fd.code fd.qualname) (hs : fnSm fd.scope sm pn = true) (hw1 : pre.all (wfS T fd.scope.names sm) = true) (hw2 : wf T fd.scope.names sm cmp = true)
    (hbind : ∀ vs : List Value, vs.length = pn.length → bindArgs fd ⟨vs, []⟩ = pure ((pn.map (·.1)).zip vs)) : HrOk prog w hB hG.cls f (runList Γ hG pre cmp pn N) (k + 1) := by
  subst hcmp
  refine hr_list_ok (N := N) B ho hd hbody hclo hg hbu hcd hs hw1 hw2 hbind fun kvs ds d e => ?_
  unfold runList at e
  split at e
  · rename_i hl
    split at e
    · rename_i σ' hσ
      split at e
      · rename_i xs hx
        split at e
        · rename_i hf
          cases e
          rw [List.all_eq_true] at hf
          exact ⟨hl, xs, σ', rfl, hf, hσ, hx⟩
        · cases e
      · cases e
    · cases e
  · cases e
noncomputable def runF (Γ : Nat → List PyData → Option PyData) (hG : Hs) (body : ISs) (pn : List (Str × Nat)) (N : Nat) (ds : List PyData) : Option PyData :=
  if ds.length = pn.length then match exs Γ hG body (putMany pn ds (List.replicate N none)) with
    | some (.ret d, _) => some d
    | _ => none
  else none
theorem fn_run_ok {f : Addr} {o : Obj} {fd : FuncData} {body : ISs} {N : Nat} (B : Base prog w K hB T Γ hG k) (ho : hB.get? f = some o) (hd : o.data = .func fd) (hbody : fd.body = .stmts body.ast) (hclo : fd.closure = []) (hg : fd.globals = mainGlobals) (hbu : fd.builtins = builtinsNs)
    (hcd : hB.CodeRec fd.code fd.qualname) (hs : fnSm fd.scope sm pn = true) (hw : wfSs T fd.scope.names sm body = true) (hbind : ∀ vs : List Value, vs.length = pn.length → bindArgs fd ⟨vs, []⟩ = pure ((pn.map (·.1)).zip vs)) : FnOk prog w hB f (runF Γ hG body pn N) (k + 1) := by
  refine fn_ok (N := N) B ho hd hbody hclo hg hbu hcd hs hw hbind fun ds d e => ?_
  unfold runF at e
  split at e
  · rename_i hl
    split at e
    · rename_i d' σ' hx; cases e; exact ⟨hl, σ', hx⟩
    · cases e
  · cases e
theorem len1 {vs : List Value} (h : vs.length = 1) : ∃ a, vs = [a] := List.length_eq_one_iff.mp h
theorem len2 {vs : List Value} (h : vs.length = 2) : ∃ a b, vs = [a, b] := by
  obtain ⟨x, r, rfl⟩ := List.exists_cons_of_length_eq_add_one h
  obtain ⟨y, rfl⟩ := len1 (vs := r) (Nat.succ.inj h)
  exact ⟨x, y, rfl⟩
theorem len3 {vs : List Value} (h : vs.length = 3) : ∃ a b c, vs = [a, b, c] := by
  obtain ⟨x, r, rfl⟩ := List.exists_cons_of_length_eq_add_one h
  obtain ⟨y, z, rfl⟩ := len2 (vs := r) (Nat.succ.inj h)
  exact ⟨x, y, z, rfl⟩
theorem FnOk.le {f : Addr} {spec : List PyData → Option PyData} {k k' : Nat} (x : FnOk prog w hB f spec k) (h : k ≤ k') : FnOk prog w hB f spec k' := ⟨x.1, fun A s P vs ds d a b c => x.2 A s P vs ds d a (b.le h) c⟩
theorem HrOk.le {c f : Addr} {spec : List PyData → List PyData → Option PyData} {k k' : Nat} (x : HrOk prog w hB c f spec k) (h : k ≤ k') : HrOk prog w hB c f spec k' := fun A s P v kvs vs ds d a b => x A s P v kvs vs ds d a (b.le h)
theorem HwOk.le {c f : Addr} {spec : List PyData → List PyData → Option (List PyData × PyData)} {k k' : Nat} (x : HwOk prog w hB c f spec k) (h : k ≤ k') : HwOk prog w hB c f spec k' := fun A s P v a ws kvs vs ds kvs' d p q => x A s P v a ws kvs vs ds kvs' d p (q.le h)
end
end Mine
end
section
open PySem PySem.W PySem.Calls PyProof.Rows
set_option Elab.async false
set_option maxRecDepth 100000
namespace Mine
namespace L3
noncomputable def subc.sm : List (Str × Nat) := [("ch_a", 0), ("ch_b", 1)]
noncomputable def subc.pn : List (Str × Nat) := [("ch_a", 0), ("ch_b", 1)]
noncomputable def subc.body : ISs := (.cons (.ite (.cmp .Eq (.var "ch_a" 0 ⟨40, 7, 40, 11⟩) (.var "ch_b" 1 ⟨40, 15, 40, 19⟩) ⟨40, 7, 40, 19⟩) (.cons (.ret (.int 0 0 ⟨41, 15, 41, 16⟩) ⟨41, 8, 41, 16⟩) (.nil)) .nil ⟨40, 4, 41, 16⟩) (
  .cons (.ite (.cmp .Eq (.meth .lower (.var "ch_a" 0 ⟨42, 7, 42, 11⟩) ⟨42, 7, 42, 17⟩ .nil ⟨42, 7, 42, 19⟩) (.meth .lower (.var "ch_b" 1 ⟨42, 23, 42, 27⟩) ⟨42, 23, 42, 33⟩ .nil ⟨42, 23, 42, 35⟩) ⟨42, 7, 42, 35⟩) (.cons (.ret (.glob "_CASE_COST" (.int 1) ⟨43, 15, 43, 25⟩) ⟨43, 8, 43, 25⟩) (.nil)) .nil ⟨42, 4, 43, 25⟩) (
  .cons (.ret (.glob "_MOVE_COST" (.int 2) ⟨44, 11, 44, 21⟩) ⟨44, 4, 44, 21⟩) (.nil))))
noncomputable def subc.n : Nat := 2
noncomputable def lett.sm : List (Str × Nat) := [("word", 0), ("kind", 1)]
noncomputable def lett.pn : List (Str × Nat) := [("word", 0), ("kind", 1)]
noncomputable def lett.body : ISs := (.cons (.ret (.meth .join (.str "" 0 ⟨191, 11, 191, 13⟩) ⟨191, 11, 191, 18⟩ (.cons (.comp (.sub (.var "word" 0 ⟨191, 20, 191, 24⟩) (.var "k" 2 ⟨191, 25, 191, 26⟩) ⟨191, 20, 191, 27⟩) (.one "k" 2 ⟨191, 32, 191, 33⟩) (.e (.var "kind" 1 ⟨191, 37, 191, 41⟩)) .nil { kind := .function, names := [(".0", .local), ("k", .local), ("word", .free)], isGenerator := false, isCoroutine := false } [("k", 2), ("word", 0)] ⟨191, 19, 191, 42⟩) .nil) ⟨191, 11, 191, 43⟩) ⟨191, 4, 191, 43⟩) (.nil))
noncomputable def lett.n : Nat := 3
noncomputable def elli.sm : List (Str × Nat) := [("want", 0), ("got", 1), ("ws", 2), ("startpos", 3), ("endpos", 4), ("w", 5)]
noncomputable def elli.pn : List (Str × Nat) := [("want", 0), ("got", 1)]
noncomputable def elli.body : ISs := (.cons (.ite (.cmp .NotIn (.glob "ELLIPSIS_MARKER" (.str "...") ⟨8, 7, 8, 22⟩) (.var "want" 0 ⟨8, 30, 8, 34⟩) ⟨8, 7, 8, 34⟩) (.cons (.ret (.cmp .Eq (.var "want" 0 ⟨9, 15, 9, 19⟩) (.var "got" 1 ⟨9, 23, 9, 26⟩) ⟨9, 15, 9, 26⟩) ⟨9, 8, 9, 26⟩) (.nil)) .nil ⟨8, 4, 9, 26⟩) (
  .cons (.asgO "ws" 2 ⟨10, 4, 10, 6⟩ (.meth .split (.var "want" 0 ⟨10, 9, 10, 13⟩) ⟨10, 9, 10, 19⟩ (.cons (.glob "ELLIPSIS_MARKER" (.str "...") ⟨10, 20, 10, 35⟩) .nil) ⟨10, 9, 10, 36⟩) ⟨10, 4, 10, 36⟩) (
  .cons (.asrt (.cmp .GtE (.callB .len ⟨11, 11, 11, 14⟩ (.cons (.var "ws" 2 ⟨11, 15, 11, 17⟩) .nil) ⟨11, 11, 11, 18⟩) (.int 2 0 ⟨11, 22, 11, 23⟩) ⟨11, 11, 11, 23⟩) ⟨11, 4, 11, 23⟩) (
  .cons (.swp "startpos" 3 ⟨12, 4, 12, 12⟩ "endpos" 4 ⟨12, 14, 12, 20⟩ 0 ⟨12, 4, 12, 20⟩ (.int 0 0 ⟨12, 24, 12, 25⟩) (.callB .len ⟨12, 27, 12, 30⟩ (.cons (.var "got" 1 ⟨12, 31, 12, 34⟩) .nil) ⟨12, 27, 12, 35⟩) 0 ⟨12, 23, 12, 36⟩ ⟨12, 4, 12, 36⟩) (
  .cons (.asg "w" 5 ⟨13, 4, 13, 5⟩ (.sub (.var "ws" 2 ⟨13, 8, 13, 10⟩) (.int 0 0 ⟨13, 11, 13, 12⟩) ⟨13, 8, 13, 13⟩) ⟨13, 4, 13, 13⟩) (
  .cons (.ite (.var "w" 5 ⟨14, 7, 14, 8⟩) (.cons (.ite (.meth .startswith (.var "got" 1 ⟨15, 11, 15, 14⟩) ⟨15, 11, 15, 25⟩ (.cons (.var "w" 5 ⟨15, 26, 15, 27⟩) .nil) ⟨15, 11, 15, 28⟩) (.cons (.asg "startpos" 3 ⟨16, 12, 16, 20⟩ (.callB .len ⟨16, 23, 16, 26⟩ (.cons (.var "w" 5 ⟨16, 27, 16, 28⟩) .nil) ⟨16, 23, 16, 29⟩) ⟨16, 12, 16, 29⟩) (
      .cons (.deli "ws" 2 ⟨17, 16, 17, 18⟩ (.int 0 0 ⟨17, 19, 17, 20⟩) ⟨17, 16, 17, 21⟩ ⟨17, 12, 17, 21⟩) (.nil))) (.cons (.ret (.bool false 0 ⟨19, 19, 19, 24⟩) ⟨19, 12, 19, 24⟩) (.nil)) ⟨15, 8, 19, 24⟩) (.nil)) .nil ⟨14, 4, 19, 24⟩) (
  .cons (.asg "w" 5 ⟨20, 4, 20, 5⟩ (.sub (.var "ws" 2 ⟨20, 8, 20, 10⟩) (.neg (.int 1 0 ⟨20, 12, 20, 13⟩) ⟨20, 11, 20, 13⟩) ⟨20, 8, 20, 14⟩) ⟨20, 4, 20, 14⟩) (
  .cons (.ite (.var "w" 5 ⟨21, 7, 21, 8⟩) (.cons (.ite (.meth .endswith (.var "got" 1 ⟨22, 11, 22, 14⟩) ⟨22, 11, 22, 23⟩ (.cons (.var "w" 5 ⟨22, 24, 22, 25⟩) .nil) ⟨22, 11, 22, 26⟩) (.cons (.aug "endpos" 4 ⟨23, 12, 23, 18⟩ .Sub (.callB .len ⟨23, 22, 23, 25⟩ (.cons (.var "w" 5 ⟨23, 26, 23, 27⟩) .nil) ⟨23, 22, 23, 28⟩) ⟨23, 12, 23, 28⟩) (
      .cons (.deli "ws" 2 ⟨24, 16, 24, 18⟩ (.neg (.int 1 0 ⟨24, 20, 24, 21⟩) ⟨24, 19, 24, 21⟩) ⟨24, 16, 24, 22⟩ ⟨24, 12, 24, 22⟩) (.nil))) (.cons (.ret (.bool false 0 ⟨26, 19, 26, 24⟩) ⟨26, 12, 26, 24⟩) (.nil)) ⟨22, 8, 26, 24⟩) (.nil)) .nil ⟨21, 4, 26, 24⟩) (
  .cons (.ite (.cmp .Gt (.var "startpos" 3 ⟨27, 7, 27, 15⟩) (.var "endpos" 4 ⟨27, 18, 27, 24⟩) ⟨27, 7, 27, 24⟩) (.cons (.ret (.bool false 0 ⟨28, 15, 28, 20⟩) ⟨28, 8, 28, 20⟩) (.nil)) .nil ⟨27, 4, 28, 20⟩) (
  .cons (.frz 2 (.for (.one "w" 5 ⟨29, 8, 29, 9⟩) (.e (.var "ws" 2 ⟨29, 13, 29, 15⟩)) (.cons (.asg "startpos" 3 ⟨30, 8, 30, 16⟩ (.meth .find (.var "got" 1 ⟨30, 19, 30, 22⟩) ⟨30, 19, 30, 27⟩ (.cons (.var "w" 5 ⟨30, 28, 30, 29⟩) (.cons (.var "startpos" 3 ⟨30, 31, 30, 39⟩) (.cons (.var "endpos" 4 ⟨30, 41, 30, 47⟩) .nil))) ⟨30, 19, 30, 48⟩) ⟨30, 8, 30, 48⟩) (
    .cons (.ite (.cmp .Lt (.var "startpos" 3 ⟨31, 11, 31, 19⟩) (.int 0 0 ⟨31, 22, 31, 23⟩) ⟨31, 11, 31, 23⟩) (.cons (.ret (.bool false 0 ⟨32, 19, 32, 24⟩) ⟨32, 12, 32, 24⟩) (.nil)) .nil ⟨31, 8, 32, 24⟩) (
    .cons (.aug "startpos" 3 ⟨33, 8, 33, 16⟩ .Add (.callB .len ⟨33, 20, 33, 23⟩ (.cons (.var "w" 5 ⟨33, 24, 33, 25⟩) .nil) ⟨33, 20, 33, 26⟩) ⟨33, 8, 33, 26⟩) (.nil)))) ⟨29, 4, 33, 26⟩)) (
  .cons (.ret (.bool true 0 ⟨34, 11, 34, 15⟩) ⟨34, 4, 34, 15⟩) (.nil))))))))))))
noncomputable def elli.n : Nat := 6
noncomputable def wrds.sm : List (Str × Nat) := [("draws", 0), ("numbers", 1), ("x", 2), ("n", 3), ("spot", 4)]
noncomputable def wrds.pn : List (Str × Nat) := [("draws", 0)]
noncomputable def wrds.body : ISs := (.cons (.asgO "numbers" 1 ⟨180, 4, 180, 11⟩ (.lst (.cons (.int 0 0 ⟨180, 15, 180, 16⟩) (.cons (.int 1 0 ⟨180, 18, 180, 19⟩) .nil)) ⟨180, 14, 180, 20⟩) ⟨180, 4, 180, 20⟩) (
  .cons (.for (.one "x" 2 ⟨181, 8, 181, 9⟩) (.e (.var "draws" 0 ⟨181, 13, 181, 18⟩)) (.cons (.asg "n" 3 ⟨182, 8, 182, 9⟩ (.bin .FloorDiv (.var "x" 2 ⟨182, 12, 182, 13⟩) (.int 3 0 ⟨182, 17, 182, 18⟩) ⟨182, 12, 182, 18⟩) ⟨182, 8, 182, 18⟩) (
    .cons (.ite (.cmp .Eq (.bin .Mod (.var "x" 2 ⟨183, 11, 183, 12⟩) (.int 3 0 ⟨183, 15, 183, 16⟩) ⟨183, 11, 183, 16⟩) (.int 2 0 ⟨183, 20, 183, 21⟩) ⟨183, 11, 183, 21⟩) (.cons (.asg "spot" 4 ⟨184, 12, 184, 16⟩ (.bin .Mod (.var "n" 3 ⟨184, 19, 184, 20⟩) (.int 16 0 ⟨184, 23, 184, 25⟩) ⟨184, 19, 184, 25⟩) ⟨184, 12, 184, 25⟩) (.nil)) (.cons (.asg "spot" 4 ⟨186, 12, 186, 16⟩ (.bin .BitXor (.sub (.var "numbers" 1 ⟨186, 19, 186, 26⟩) (.bin .Mod (.bin .FloorDiv (.var "n" 3 ⟨186, 27, 186, 28⟩) (.int 4 0 ⟨186, 32, 186, 33⟩) ⟨186, 27, 186, 33⟩) (.callB .len ⟨186, 36, 186, 39⟩ (.cons (.var "numbers" 1 ⟨186, 40, 186, 47⟩) .nil) ⟨186, 36, 186, 48⟩) ⟨186, 27, 186, 48⟩) ⟨186, 19, 186, 49⟩) (.bin .LShift (.int 1 0 ⟨186, 52, 186, 53⟩) (.bin .Mod (.var "n" 3 ⟨186, 57, 186, 58⟩) (.int 4 0 ⟨186, 61, 186, 62⟩) ⟨186, 57, 186, 62⟩) ⟨186, 52, 186, 62⟩) ⟨186, 19, 186, 62⟩) ⟨186, 12, 186, 62⟩) (.nil)) ⟨183, 8, 186, 62⟩) (
    .cons (.ite (.cmp .NotIn (.var "spot" 4 ⟨187, 11, 187, 15⟩) (.var "numbers" 1 ⟨187, 23, 187, 30⟩) ⟨187, 11, 187, 30⟩) (.cons (.app "numbers" 1 ⟨188, 12, 188, 19⟩ ⟨188, 12, 188, 26⟩ (.var "spot" 4 ⟨188, 27, 188, 31⟩) ⟨188, 12, 188, 32⟩ ⟨188, 12, 188, 32⟩) (.nil)) .nil ⟨187, 8, 188, 32⟩) (.nil)))) ⟨181, 4, 188, 32⟩) (
  .cons (.ret (.comp (.meth .join (.str "" 0 ⟨189, 12, 189, 14⟩) ⟨189, 12, 189, 19⟩ (.cons (.comp (.sub (.str "abcdABCD" 0 ⟨189, 21, 189, 31⟩) (.bin .Add (.var "k" 6 ⟨189, 32, 189, 33⟩) (.bin .Mult (.int 4 0 ⟨189, 36, 189, 37⟩) (.bin .Mod (.bin .FloorDiv (.var "spot" 5 ⟨189, 41, 189, 45⟩) (.bin .Pow (.int 2 0 ⟨189, 49, 189, 50⟩) (.var "k" 6 ⟨189, 54, 189, 55⟩) ⟨189, 49, 189, 55⟩) ⟨189, 41, 189, 55⟩) (.int 2 0 ⟨189, 58, 189, 59⟩) ⟨189, 41, 189, 59⟩) ⟨189, 36, 189, 60⟩) ⟨189, 32, 189, 60⟩) ⟨189, 21, 189, 61⟩) (.one "k" 6 ⟨189, 66, 189, 67⟩) (.range ⟨189, 71, 189, 76⟩ (.cons (.int 4 0 ⟨189, 77, 189, 78⟩) .nil) ⟨189, 71, 189, 79⟩) .nil { kind := .function, names := [(".0", .local), ("k", .local), ("spot", .free)], isGenerator := false, isCoroutine := false } [("k", 6), ("spot", 5)] ⟨189, 20, 189, 80⟩) .nil) ⟨189, 12, 189, 81⟩) (.one "spot" 5 ⟨189, 86, 189, 90⟩) (.v (.var "numbers" 1 ⟨189, 94, 189, 101⟩)) .nil { kind := .function, names := [(".0", .local), ("spot", .cell), ("range", .globalImplicit)], isGenerator := false, isCoroutine := false } [("spot", 5)] ⟨189, 11, 189, 102⟩) ⟨189, 4, 189, 102⟩) (.nil))))
noncomputable def wrds.n : Nat := 7
noncomputable def leve.sm : List (Str × Nat) := [("a", 0), ("b", 1), ("max_cost", 2), ("pre", 3), ("post", 4), ("row", 5), ("result", 6), ("bindex", 7), ("bchar", 8), ("distance", 9), ("minimum", 10), ("index", 11), ("substitute", 12), ("insert_delete", 13)]
noncomputable def leve.pn : List (Str × Nat) := [("a", 0), ("b", 1), ("max_cost", 2)]
noncomputable def leve.body : ISs := (.cons (.ite (.cmp .Eq (.var "a" 0 ⟨46, 7, 46, 8⟩) (.var "b" 1 ⟨46, 12, 46, 13⟩) ⟨46, 7, 46, 13⟩) (.cons (.ret (.int 0 0 ⟨47, 15, 47, 16⟩) ⟨47, 8, 47, 16⟩) (.nil)) .nil ⟨46, 4, 47, 16⟩) (
  .cons (.asg "pre" 3 ⟨48, 4, 48, 7⟩ (.int 0 0 ⟨48, 10, 48, 11⟩) ⟨48, 4, 48, 11⟩) (
  .cons (.whl 64 (.boolop .And (.cons (.slc (.var "a" 0 ⟨49, 10, 49, 11⟩) (.some (.var "pre" 3 ⟨49, 12, 49, 15⟩)) .none .none ⟨49, 12, 49, 16⟩ ⟨49, 10, 49, 17⟩) (.cons (.slc (.var "b" 1 ⟨49, 22, 49, 23⟩) (.some (.var "pre" 3 ⟨49, 24, 49, 27⟩)) .none .none ⟨49, 24, 49, 28⟩ ⟨49, 22, 49, 29⟩) (.cons (.cmp .Eq (.sub (.var "a" 0 ⟨49, 35, 49, 36⟩) (.var "pre" 3 ⟨49, 37, 49, 40⟩) ⟨49, 35, 49, 41⟩) (.sub (.var "b" 1 ⟨49, 45, 49, 46⟩) (.var "pre" 3 ⟨49, 47, 49, 50⟩) ⟨49, 45, 49, 51⟩) ⟨49, 35, 49, 51⟩) .nil))) ⟨49, 10, 49, 52⟩) (.cons (.aug "pre" 3 ⟨50, 8, 50, 11⟩ .Add (.int 1 0 ⟨50, 15, 50, 16⟩) ⟨50, 8, 50, 16⟩) (.nil)) ⟨49, 4, 50, 16⟩) (
  .cons (.asg "a" 0 ⟨51, 4, 51, 5⟩ (.slc (.var "a" 0 ⟨51, 8, 51, 9⟩) (.some (.var "pre" 3 ⟨51, 10, 51, 13⟩)) .none .none ⟨51, 10, 51, 14⟩ ⟨51, 8, 51, 15⟩) ⟨51, 4, 51, 15⟩) (
  .cons (.asg "b" 1 ⟨52, 4, 52, 5⟩ (.slc (.var "b" 1 ⟨52, 8, 52, 9⟩) (.some (.var "pre" 3 ⟨52, 10, 52, 13⟩)) .none .none ⟨52, 10, 52, 14⟩ ⟨52, 8, 52, 15⟩) ⟨52, 4, 52, 15⟩) (
  .cons (.asg "post" 4 ⟨53, 4, 53, 8⟩ (.int 0 0 ⟨53, 11, 53, 12⟩) ⟨53, 4, 53, 12⟩) (
  .cons (.whl 64 (.boolop .And (.cons (.slc (.var "a" 0 ⟨54, 10, 54, 11⟩) .none (.some (.boolop .Or (.cons (.var "post" 4 ⟨54, 13, 54, 17⟩) (.cons (.none 0 ⟨54, 21, 54, 25⟩) .nil)) ⟨54, 13, 54, 25⟩)) .none ⟨54, 12, 54, 25⟩ ⟨54, 10, 54, 26⟩) (.cons (.slc (.var "b" 1 ⟨54, 31, 54, 32⟩) .none (.some (.boolop .Or (.cons (.var "post" 4 ⟨54, 34, 54, 38⟩) (.cons (.none 0 ⟨54, 42, 54, 46⟩) .nil)) ⟨54, 34, 54, 46⟩)) .none ⟨54, 33, 54, 46⟩ ⟨54, 31, 54, 47⟩) (.cons (.cmp .Eq (.sub (.var "a" 0 ⟨54, 53, 54, 54⟩) (.bin .Sub (.var "post" 4 ⟨54, 55, 54, 59⟩) (.int 1 0 ⟨54, 62, 54, 63⟩) ⟨54, 55, 54, 63⟩) ⟨54, 53, 54, 64⟩) (.sub (.var "b" 1 ⟨54, 68, 54, 69⟩) (.bin .Sub (.var "post" 4 ⟨54, 70, 54, 74⟩) (.int 1 0 ⟨54, 77, 54, 78⟩) ⟨54, 70, 54, 78⟩) ⟨54, 68, 54, 79⟩) ⟨54, 53, 54, 79⟩) .nil))) ⟨54, 10, 54, 80⟩) (.cons (.aug "post" 4 ⟨55, 8, 55, 12⟩ .Sub (.int 1 0 ⟨55, 16, 55, 17⟩) ⟨55, 8, 55, 17⟩) (.nil)) ⟨54, 4, 55, 17⟩) (
  .cons (.asg "a" 0 ⟨56, 4, 56, 5⟩ (.slc (.var "a" 0 ⟨56, 8, 56, 9⟩) .none (.some (.boolop .Or (.cons (.var "post" 4 ⟨56, 11, 56, 15⟩) (.cons (.none 0 ⟨56, 19, 56, 23⟩) .nil)) ⟨56, 11, 56, 23⟩)) .none ⟨56, 10, 56, 23⟩ ⟨56, 8, 56, 24⟩) ⟨56, 4, 56, 24⟩) (
  .cons (.asg "b" 1 ⟨57, 4, 57, 5⟩ (.slc (.var "b" 1 ⟨57, 8, 57, 9⟩) .none (.some (.boolop .Or (.cons (.var "post" 4 ⟨57, 11, 57, 15⟩) (.cons (.none 0 ⟨57, 19, 57, 23⟩) .nil)) ⟨57, 11, 57, 23⟩)) .none ⟨57, 10, 57, 23⟩ ⟨57, 8, 57, 24⟩) ⟨57, 4, 57, 24⟩) (
  .cons (.ite (.boolop .Or (.cons (.not (.var "a" 0 ⟨58, 11, 58, 12⟩) ⟨58, 7, 58, 12⟩) (.cons (.not (.var "b" 1 ⟨58, 20, 58, 21⟩) ⟨58, 16, 58, 21⟩) .nil)) ⟨58, 7, 58, 21⟩) (.cons (.ret (.bin .Mult (.glob "_MOVE_COST" (.int 2) ⟨59, 15, 59, 25⟩) (.bin .Add (.callB .len ⟨59, 29, 59, 32⟩ (.cons (.var "a" 0 ⟨59, 33, 59, 34⟩) .nil) ⟨59, 29, 59, 35⟩) (.callB .len ⟨59, 38, 59, 41⟩ (.cons (.var "b" 1 ⟨59, 42, 59, 43⟩) .nil) ⟨59, 38, 59, 44⟩) ⟨59, 29, 59, 44⟩) ⟨59, 15, 59, 45⟩) ⟨59, 8, 59, 45⟩) (.nil)) .nil ⟨58, 4, 59, 45⟩) (
  .cons (.ite (.boolop .Or (.cons (.cmp .Gt (.callB .len ⟨60, 7, 60, 10⟩ (.cons (.var "a" 0 ⟨60, 11, 60, 12⟩) .nil) ⟨60, 7, 60, 13⟩) (.glob "_MAX_STRING_SIZE" (.int 40) ⟨60, 16, 60, 32⟩) ⟨60, 7, 60, 32⟩) (.cons (.cmp .Gt (.callB .len ⟨60, 36, 60, 39⟩ (.cons (.var "b" 1 ⟨60, 40, 60, 41⟩) .nil) ⟨60, 36, 60, 42⟩) (.glob "_MAX_STRING_SIZE" (.int 40) ⟨60, 45, 60, 61⟩) ⟨60, 36, 60, 61⟩) .nil)) ⟨60, 7, 60, 61⟩) (.cons (.ret (.bin .Add (.var "max_cost" 2 ⟨61, 15, 61, 23⟩) (.int 1 0 ⟨61, 26, 61, 27⟩) ⟨61, 15, 61, 27⟩) ⟨61, 8, 61, 27⟩) (.nil)) .nil ⟨60, 4, 61, 27⟩) (
  .cons (.ite (.cmp .Lt (.callB .len ⟨62, 7, 62, 10⟩ (.cons (.var "b" 1 ⟨62, 11, 62, 12⟩) .nil) ⟨62, 7, 62, 13⟩) (.callB .len ⟨62, 16, 62, 19⟩ (.cons (.var "a" 0 ⟨62, 20, 62, 21⟩) .nil) ⟨62, 16, 62, 22⟩) ⟨62, 7, 62, 22⟩) (.cons (.swp "a" 0 ⟨63, 8, 63, 9⟩ "b" 1 ⟨63, 11, 63, 12⟩ 0 ⟨63, 8, 63, 12⟩ (.var "b" 1 ⟨63, 16, 63, 17⟩) (.var "a" 0 ⟨63, 19, 63, 20⟩) 0 ⟨63, 15, 63, 21⟩ ⟨63, 8, 63, 21⟩) (.nil)) .nil ⟨62, 4, 63, 21⟩) (
  .cons (.ite (.cmp .Gt (.bin .Mult (.bin .Sub (.callB .len ⟨64, 8, 64, 11⟩ (.cons (.var "b" 1 ⟨64, 12, 64, 13⟩) .nil) ⟨64, 8, 64, 14⟩) (.callB .len ⟨64, 17, 64, 20⟩ (.cons (.var "a" 0 ⟨64, 21, 64, 22⟩) .nil) ⟨64, 17, 64, 23⟩) ⟨64, 8, 64, 23⟩) (.glob "_MOVE_COST" (.int 2) ⟨64, 27, 64, 37⟩) ⟨64, 7, 64, 37⟩) (.var "max_cost" 2 ⟨64, 40, 64, 48⟩) ⟨64, 7, 64, 48⟩) (.cons (.ret (.bin .Add (.var "max_cost" 2 ⟨65, 15, 65, 23⟩) (.int 1 0 ⟨65, 26, 65, 27⟩) ⟨65, 15, 65, 27⟩) ⟨65, 8, 65, 27⟩) (.nil)) .nil ⟨64, 4, 65, 27⟩) (
  .cons (.asgO "row" 5 ⟨66, 4, 66, 7⟩ (.listOf ⟨66, 10, 66, 14⟩ (.range ⟨66, 15, 66, 20⟩ (.cons (.glob "_MOVE_COST" (.int 2) ⟨66, 21, 66, 31⟩) (.cons (.bin .Mult (.glob "_MOVE_COST" (.int 2) ⟨66, 33, 66, 43⟩) (.bin .Add (.callB .len ⟨66, 47, 66, 50⟩ (.cons (.var "a" 0 ⟨66, 51, 66, 52⟩) .nil) ⟨66, 47, 66, 53⟩) (.int 1 0 ⟨66, 56, 66, 57⟩) ⟨66, 47, 66, 57⟩) ⟨66, 33, 66, 58⟩) (.cons (.glob "_MOVE_COST" (.int 2) ⟨66, 60, 66, 70⟩) .nil))) ⟨66, 15, 66, 71⟩) ⟨66, 10, 66, 72⟩) ⟨66, 4, 66, 72⟩) (
  .cons (.asg "result" 6 ⟨67, 4, 67, 10⟩ (.int 0 0 ⟨67, 13, 67, 14⟩) ⟨67, 4, 67, 14⟩) (
  .cons (.for (.one "bindex" 7 ⟨68, 8, 68, 14⟩) (.range ⟨68, 18, 68, 23⟩ (.cons (.callB .len ⟨68, 24, 68, 27⟩ (.cons (.var "b" 1 ⟨68, 28, 68, 29⟩) .nil) ⟨68, 24, 68, 30⟩) .nil) ⟨68, 18, 68, 31⟩) (.cons (.asg "bchar" 8 ⟨69, 8, 69, 13⟩ (.sub (.var "b" 1 ⟨69, 16, 69, 17⟩) (.var "bindex" 7 ⟨69, 18, 69, 24⟩) ⟨69, 16, 69, 25⟩) ⟨69, 8, 69, 25⟩) (
    .cons (.asg2 "distance" 9 ⟨70, 8, 70, 16⟩ "result" 6 ⟨70, 19, 70, 25⟩ (.bin .Mult (.var "bindex" 7 ⟨70, 28, 70, 34⟩) (.glob "_MOVE_COST" (.int 2) ⟨70, 37, 70, 47⟩) ⟨70, 28, 70, 47⟩) ⟨70, 8, 70, 47⟩) (
    .cons (.asg "minimum" 10 ⟨71, 8, 71, 15⟩ (.int 9223372036854775807 0 ⟨71, 18, 71, 37⟩) ⟨71, 8, 71, 37⟩) (
    .cons (.for (.one "index" 11 ⟨72, 12, 72, 17⟩) (.range ⟨72, 21, 72, 26⟩ (.cons (.callB .len ⟨72, 27, 72, 30⟩ (.cons (.var "a" 0 ⟨72, 31, 72, 32⟩) .nil) ⟨72, 27, 72, 33⟩) .nil) ⟨72, 21, 72, 34⟩) (.cons (.asg "substitute" 12 ⟨73, 12, 73, 22⟩ (.bin .Add (.var "distance" 9 ⟨73, 25, 73, 33⟩) (.callF 0 "_substitution_cost" ⟨73, 36, 73, 54⟩ (.cons (.var "bchar" 8 ⟨73, 55, 73, 60⟩) (.cons (.sub (.var "a" 0 ⟨73, 62, 73, 63⟩) (.var "index" 11 ⟨73, 64, 73, 69⟩) ⟨73, 62, 73, 70⟩) .nil)) ⟨73, 36, 73, 71⟩) ⟨73, 25, 73, 71⟩) ⟨73, 12, 73, 71⟩) (
      .cons (.asg "distance" 9 ⟨74, 12, 74, 20⟩ (.sub (.var "row" 5 ⟨74, 23, 74, 26⟩) (.var "index" 11 ⟨74, 27, 74, 32⟩) ⟨74, 23, 74, 33⟩) ⟨74, 12, 74, 33⟩) (
      .cons (.asg "insert_delete" 13 ⟨75, 12, 75, 25⟩ (.bin .Add (.callB .min ⟨75, 28, 75, 31⟩ (.cons (.var "result" 6 ⟨75, 32, 75, 38⟩) (.cons (.var "distance" 9 ⟨75, 40, 75, 48⟩) .nil)) ⟨75, 28, 75, 49⟩) (.glob "_MOVE_COST" (.int 2) ⟨75, 52, 75, 62⟩) ⟨75, 28, 75, 62⟩) ⟨75, 12, 75, 62⟩) (
      .cons (.asg "result" 6 ⟨76, 12, 76, 18⟩ (.callB .min ⟨76, 21, 76, 24⟩ (.cons (.var "insert_delete" 13 ⟨76, 25, 76, 38⟩) (.cons (.var "substitute" 12 ⟨76, 40, 76, 50⟩) .nil)) ⟨76, 21, 76, 51⟩) ⟨76, 12, 76, 51⟩) (
      .cons (.seti "row" 5 ⟨77, 12, 77, 15⟩ (.var "index" 11 ⟨77, 16, 77, 21⟩) ⟨77, 12, 77, 22⟩ (.var "result" 6 ⟨77, 25, 77, 31⟩) ⟨77, 12, 77, 31⟩) (
      .cons (.ite (.cmp .Lt (.var "result" 6 ⟨78, 15, 78, 21⟩) (.var "minimum" 10 ⟨78, 24, 78, 31⟩) ⟨78, 15, 78, 31⟩) (.cons (.asg "minimum" 10 ⟨79, 16, 79, 23⟩ (.var "result" 6 ⟨79, 26, 79, 32⟩) ⟨79, 16, 79, 32⟩) (.nil)) .nil ⟨78, 12, 79, 32⟩) (.nil))))))) ⟨72, 8, 79, 32⟩) (
    .cons (.ite (.cmp .Gt (.var "minimum" 10 ⟨80, 11, 80, 18⟩) (.var "max_cost" 2 ⟨80, 21, 80, 29⟩) ⟨80, 11, 80, 29⟩) (.cons (.ret (.bin .Add (.var "max_cost" 2 ⟨81, 19, 81, 27⟩) (.int 1 0 ⟨81, 30, 81, 31⟩) ⟨81, 19, 81, 31⟩) ⟨81, 12, 81, 31⟩) (.nil)) .nil ⟨80, 8, 81, 31⟩) (.nil)))))) ⟨68, 4, 81, 31⟩) (
  .cons (.ret (.var "result" 6 ⟨82, 11, 82, 17⟩) ⟨82, 4, 82, 17⟩) (.nil))))))))))))))))))
noncomputable def leve.n : Nat := 14
noncomputable def show.sm : List (Str × Nat) := [("words", 0), ("kinds", 1), ("table", 2), ("word", 3), ("kind", 4), ("shown", 5), ("seen", 6), ("text", 7)]
noncomputable def show.pn : List (Str × Nat) := [("words", 0), ("kinds", 1)]
noncomputable def show.body : ISs := (.cons (.hnew "table" 2 ⟨193, 4, 193, 9⟩ ⟨193, 12, 193, 19⟩ ⟨193, 12, 193, 21⟩ ⟨193, 4, 193, 21⟩) (
  .cons (.for (.one "word" 3 ⟨194, 8, 194, 12⟩) (.e (.var "words" 0 ⟨194, 16, 194, 21⟩)) (.cons (.for (.one "kind" 4 ⟨195, 12, 195, 16⟩) (.e (.var "kinds" 1 ⟨195, 20, 195, 25⟩)) (.cons (.hcall "add_header" "table" 2 ⟨196, 12, 196, 17⟩ ⟨196, 12, 196, 28⟩ (.cons (.callF 1 "_law_letters" ⟨196, 29, 196, 41⟩ (.cons (.var "word" 3 ⟨196, 42, 196, 46⟩) (.cons (.var "kind" 4 ⟨196, 48, 196, 52⟩) .nil)) ⟨196, 29, 196, 53⟩) (.cons (.callF 1 "_law_letters" ⟨196, 55, 196, 67⟩ (.cons (.var "word" 3 ⟨196, 68, 196, 72⟩) (.cons (.var "kind" 4 ⟨196, 74, 196, 78⟩) .nil)) ⟨196, 55, 196, 79⟩) .nil)) ⟨196, 12, 196, 80⟩ ⟨196, 12, 196, 80⟩) (.nil)) ⟨195, 8, 196, 80⟩) (.nil)) ⟨194, 4, 196, 80⟩) (
  .cons (.asgO "shown" 5 ⟨197, 4, 197, 9⟩ (.lst .nil ⟨197, 12, 197, 14⟩) ⟨197, 4, 197, 14⟩) (
  .cons (.for (.one "kind" 4 ⟨198, 8, 198, 12⟩) (.e (.var "kinds" 1 ⟨198, 16, 198, 21⟩)) (.cons (.asgO "seen" 6 ⟨199, 8, 199, 12⟩ (.lst .nil ⟨199, 15, 199, 17⟩) ⟨199, 8, 199, 17⟩) (
    .cons (.for (.one "text" 7 ⟨200, 12, 200, 16⟩) (.e (.hmeth "get_all" "table" 2 ⟨200, 20, 200, 25⟩ ⟨200, 20, 200, 33⟩ (.cons (.callF 1 "_law_letters" ⟨200, 34, 200, 46⟩ (.cons (.str "abcd" 0 ⟨200, 47, 200, 53⟩) (.cons (.var "kind" 4 ⟨200, 55, 200, 59⟩) .nil)) ⟨200, 34, 200, 60⟩) .nil) ⟨200, 20, 200, 61⟩)) (.cons (.ite (.cmp .NotIn (.var "text" 7 ⟨201, 15, 201, 19⟩) (.var "seen" 6 ⟨201, 27, 201, 31⟩) ⟨201, 15, 201, 31⟩) (.cons (.app "seen" 6 ⟨202, 16, 202, 20⟩ ⟨202, 16, 202, 27⟩ (.var "text" 7 ⟨202, 28, 202, 32⟩) ⟨202, 16, 202, 33⟩ ⟨202, 16, 202, 33⟩) (.nil)) .nil ⟨201, 12, 202, 33⟩) (.nil)) ⟨200, 8, 202, 33⟩) (
    .cons (.ite (.cmp .Eq (.callB .len ⟨203, 11, 203, 14⟩ (.cons (.var "seen" 6 ⟨203, 15, 203, 19⟩) .nil) ⟨203, 11, 203, 20⟩) (.bin .Pow (.int 2 0 ⟨203, 24, 203, 25⟩) (.callB .len ⟨203, 29, 203, 32⟩ (.cons (.var "kind" 4 ⟨203, 33, 203, 37⟩) .nil) ⟨203, 29, 203, 38⟩) ⟨203, 24, 203, 38⟩) ⟨203, 11, 203, 38⟩) (.cons (.app "shown" 5 ⟨204, 12, 204, 17⟩ ⟨204, 12, 204, 24⟩ (.var "kind" 4 ⟨204, 25, 204, 29⟩) ⟨204, 12, 204, 30⟩ ⟨204, 12, 204, 30⟩) (.nil)) .nil ⟨203, 8, 204, 30⟩) (.nil)))) ⟨198, 4, 204, 30⟩) (
  .cons (.frz 5 (.ret (.var "shown" 5 ⟨205, 11, 205, 16⟩) ⟨205, 4, 205, 16⟩)) (.nil))))))
noncomputable def show.n : Nat := 8
noncomputable def fill.sm : List (Str × Nat) := [("words", 0), ("kind", 1), ("filled", 2), ("word", 3), ("pattern", 4)]
noncomputable def fill.pn : List (Str × Nat) := [("words", 0), ("kind", 1)]
noncomputable def fill.body : ISs := (.cons (.asgO "filled" 2 ⟨207, 4, 207, 10⟩ (.lst .nil ⟨207, 13, 207, 15⟩) ⟨207, 4, 207, 15⟩) (
  .cons (.for (.one "word" 3 ⟨208, 8, 208, 12⟩) (.e (.var "words" 0 ⟨208, 16, 208, 21⟩)) (.cons (.ite (.cmp .Eq (.callF 1 "_law_letters" ⟨209, 11, 209, 23⟩ (.cons (.var "word" 3 ⟨209, 24, 209, 28⟩) (.cons (.var "kind" 1 ⟨209, 30, 209, 34⟩) .nil)) ⟨209, 11, 209, 35⟩) (.callF 1 "_law_letters" ⟨209, 39, 209, 51⟩ (.cons (.str "abcd" 0 ⟨209, 52, 209, 58⟩) (.cons (.var "kind" 1 ⟨209, 60, 209, 64⟩) .nil)) ⟨209, 39, 209, 65⟩) ⟨209, 11, 209, 65⟩) (.cons (.asg "pattern" 4 ⟨210, 12, 210, 19⟩ (.meth .join (.str "" 0 ⟨210, 22, 210, 24⟩) ⟨210, 22, 210, 29⟩ (.cons (.comp (.ifexp (.cmp .In (.var "k" 5 ⟨210, 40, 210, 41⟩) (.var "kind" 1 ⟨210, 45, 210, 49⟩) ⟨210, 40, 210, 49⟩) (.str "..." 0 ⟨210, 31, 210, 36⟩) (.sub (.var "word" 3 ⟨210, 55, 210, 59⟩) (.var "k" 5 ⟨210, 60, 210, 61⟩) ⟨210, 55, 210, 62⟩) ⟨210, 31, 210, 62⟩) (.one "k" 5 ⟨210, 67, 210, 68⟩) (.range ⟨210, 72, 210, 77⟩ (.cons (.int 4 0 ⟨210, 78, 210, 79⟩) .nil) ⟨210, 72, 210, 80⟩) .nil { kind := .function, names := [(".0", .local), ("k", .local), ("kind", .free), ("word", .free)], isGenerator := false, isCoroutine := false } [("k", 5), ("kind", 1), ("word", 3)] ⟨210, 30, 210, 81⟩) .nil) ⟨210, 22, 210, 82⟩) ⟨210, 12, 210, 82⟩) (
      .cons (.ite (.cmp .Eq (.callB .len ⟨211, 15, 211, 18⟩ (.cons (.comp (.var "one" 6 ⟨211, 20, 211, 23⟩) (.one "one" 6 ⟨211, 28, 211, 31⟩) (.e (.var "words" 0 ⟨211, 35, 211, 40⟩)) (.cons (.callF 2 "_ellipsis_match" ⟨211, 44, 211, 59⟩ (.cons (.var "pattern" 4 ⟨211, 60, 211, 67⟩) (.cons (.var "one" 6 ⟨211, 69, 211, 72⟩) .nil)) ⟨211, 44, 211, 73⟩) .nil) { kind := .function, names := [(".0", .local), ("one", .local), ("_ellipsis_match", .globalImplicit), ("pattern", .free)], isGenerator := false, isCoroutine := false } [("one", 6), ("pattern", 4)] ⟨211, 19, 211, 74⟩) .nil) ⟨211, 15, 211, 75⟩) (.bin .Pow (.int 2 0 ⟨211, 79, 211, 80⟩) (.callB .len ⟨211, 84, 211, 87⟩ (.cons (.var "kind" 1 ⟨211, 88, 211, 92⟩) .nil) ⟨211, 84, 211, 93⟩) ⟨211, 79, 211, 93⟩) ⟨211, 15, 211, 93⟩) (.cons (.app "filled" 2 ⟨212, 16, 212, 22⟩ ⟨212, 16, 212, 29⟩ (.var "pattern" 4 ⟨212, 30, 212, 37⟩) ⟨212, 16, 212, 38⟩ ⟨212, 16, 212, 38⟩) (.nil)) .nil ⟨211, 12, 212, 38⟩) (.nil))) .nil ⟨209, 8, 212, 38⟩) (.nil)) ⟨208, 4, 212, 38⟩) (
  .cons (.frz 2 (.ret (.var "filled" 2 ⟨213, 11, 213, 17⟩) ⟨213, 4, 213, 17⟩)) (.nil))))
noncomputable def fill.n : Nat := 7
noncomputable def hang.sm : List (Str × Nat) := [("texts", 0), ("reached", 1), ("waiting", 2), ("k", 3), ("near", 4)]
noncomputable def hang.pn : List (Str × Nat) := [("texts", 0)]
noncomputable def hang.body : ISs := (.cons (.asg "reached" 1 ⟨215, 4, 215, 11⟩ (.slc (.var "texts" 0 ⟨215, 14, 215, 19⟩) .none (.some (.int 1 0 ⟨215, 21, 215, 22⟩)) .none ⟨215, 20, 215, 22⟩ ⟨215, 14, 215, 23⟩) ⟨215, 4, 215, 23⟩) (
  .cons (.asg "waiting" 2 ⟨216, 4, 216, 11⟩ (.slc (.var "texts" 0 ⟨216, 14, 216, 19⟩) (.some (.int 1 0 ⟨216, 20, 216, 21⟩)) .none .none ⟨216, 20, 216, 22⟩ ⟨216, 14, 216, 23⟩) ⟨216, 4, 216, 23⟩) (
  .cons (.asg "k" 3 ⟨217, 4, 217, 5⟩ (.int 0 0 ⟨217, 8, 217, 9⟩) ⟨217, 4, 217, 9⟩) (
  .cons (.whl 64 (.cmp .Lt (.var "k" 3 ⟨218, 10, 218, 11⟩) (.callB .len ⟨218, 14, 218, 17⟩ (.cons (.var "reached" 1 ⟨218, 18, 218, 25⟩) .nil) ⟨218, 14, 218, 26⟩) ⟨218, 10, 218, 26⟩) (.cons (.asg "near" 4 ⟨219, 8, 219, 12⟩ (.comp (.var "text" 5 ⟨219, 16, 219, 20⟩) (.one "text" 5 ⟨219, 25, 219, 29⟩) (.e (.var "waiting" 2 ⟨219, 33, 219, 40⟩)) (.cons (.cmp .Eq (.callF 4 "_levenshtein_distance" ⟨219, 44, 219, 65⟩ (.cons (.sub (.var "reached" 1 ⟨219, 66, 219, 73⟩) (.var "k" 3 ⟨219, 74, 219, 75⟩) ⟨219, 66, 219, 76⟩) (.cons (.var "text" 5 ⟨219, 78, 219, 82⟩) (.cons (.int 1 0 ⟨219, 84, 219, 85⟩) .nil))) ⟨219, 44, 219, 86⟩) (.int 1 0 ⟨219, 90, 219, 91⟩) ⟨219, 44, 219, 91⟩) .nil) { kind := .function, names := [(".0", .local), ("text", .local), ("_levenshtein_distance", .globalImplicit), ("k", .free), ("reached", .free)], isGenerator := false, isCoroutine := false } [("text", 5), ("k", 3), ("reached", 1)] ⟨219, 15, 219, 92⟩) ⟨219, 8, 219, 92⟩) (
    .cons (.asg "waiting" 2 ⟨220, 8, 220, 15⟩ (.comp (.var "text" 6 ⟨220, 19, 220, 23⟩) (.one "text" 6 ⟨220, 28, 220, 32⟩) (.e (.var "waiting" 2 ⟨220, 36, 220, 43⟩)) (.cons (.cmp .NotIn (.var "text" 6 ⟨220, 47, 220, 51⟩) (.var "near" 4 ⟨220, 59, 220, 63⟩) ⟨220, 47, 220, 63⟩) .nil) { kind := .function, names := [(".0", .local), ("text", .local), ("near", .free)], isGenerator := false, isCoroutine := false } [("text", 6), ("near", 4)] ⟨220, 18, 220, 64⟩) ⟨220, 8, 220, 64⟩) (
    .cons (.asg "reached" 1 ⟨221, 8, 221, 15⟩ (.bin .Add (.var "reached" 1 ⟨221, 18, 221, 25⟩) (.var "near" 4 ⟨221, 28, 221, 32⟩) ⟨221, 18, 221, 32⟩) ⟨221, 8, 221, 32⟩) (
    .cons (.asg "k" 3 ⟨222, 8, 222, 9⟩ (.bin .Add (.var "k" 3 ⟨222, 12, 222, 13⟩) (.int 1 0 ⟨222, 16, 222, 17⟩) ⟨222, 12, 222, 17⟩) ⟨222, 8, 222, 17⟩) (.nil))))) ⟨218, 4, 222, 17⟩) (
  .cons (.ret (.cmp .Eq (.var "waiting" 2 ⟨223, 11, 223, 18⟩) (.lst .nil ⟨223, 22, 223, 24⟩) ⟨223, 11, 223, 24⟩) ⟨223, 4, 223, 24⟩) (.nil))))))
noncomputable def hang.n : Nat := 7
noncomputable def law.sm : List (Str × Nat) := [("script", 0), ("words", 1), ("kinds", 2), ("shown", 3), ("rows", 4), ("filled", 5), ("together", 6)]
noncomputable def law.pn : List (Str × Nat) := [("script", 0)]
noncomputable def law.body : ISs := (.cons (.asg "words" 1 ⟨225, 4, 225, 9⟩ (.callF 3 "_law_words" ⟨225, 12, 225, 22⟩ (.cons (.slc (.var "script" 0 ⟨225, 23, 225, 29⟩) .none (.some (.int 3 0 ⟨225, 31, 225, 32⟩)) .none ⟨225, 30, 225, 32⟩ ⟨225, 23, 225, 33⟩) .nil) ⟨225, 12, 225, 34⟩) ⟨225, 4, 225, 34⟩) (
  .cons (.asg "kinds" 2 ⟨226, 4, 226, 9⟩ (.bin .Add (.comp (.lst (.cons (.var "k" 7 ⟨226, 14, 226, 15⟩) .nil) ⟨226, 13, 226, 16⟩) (.one "k" 7 ⟨226, 21, 226, 22⟩) (.range ⟨226, 26, 226, 31⟩ (.cons (.int 4 0 ⟨226, 32, 226, 33⟩) .nil) ⟨226, 26, 226, 34⟩) .nil { kind := .function, names := [(".0", .local), ("k", .local)], isGenerator := false, isCoroutine := false } [("k", 7)] ⟨226, 12, 226, 35⟩) (.comp2 (.lst (.cons (.var "k" 8 ⟨226, 40, 226, 41⟩) (.cons (.var "more" 9 ⟨226, 43, 226, 47⟩) .nil)) ⟨226, 39, 226, 48⟩) (.one "k" 8 ⟨226, 53, 226, 54⟩) (.range ⟨226, 58, 226, 63⟩ (.cons (.int 4 0 ⟨226, 64, 226, 65⟩) .nil) ⟨226, 58, 226, 66⟩) (.one "more" 9 ⟨226, 71, 226, 75⟩) (.range ⟨226, 79, 226, 84⟩ (.cons (.bin .Add (.var "k" 8 ⟨226, 85, 226, 86⟩) (.int 1 0 ⟨226, 89, 226, 90⟩) ⟨226, 85, 226, 90⟩) (.cons (.int 4 0 ⟨226, 92, 226, 93⟩) .nil)) ⟨226, 79, 226, 94⟩) { kind := .function, names := [(".0", .local), ("k", .local), ("more", .local), ("range", .globalImplicit)], isGenerator := false, isCoroutine := false } [("k", 8), ("more", 9)] ⟨226, 38, 226, 95⟩) ⟨226, 12, 226, 95⟩) ⟨226, 4, 226, 95⟩) (
  .cons (.asg "shown" 3 ⟨227, 4, 227, 9⟩ (.callF 5 "_law_shown" ⟨227, 12, 227, 22⟩ (.cons (.var "words" 1 ⟨227, 23, 227, 28⟩) (.cons (.var "kinds" 2 ⟨227, 30, 227, 35⟩) .nil)) ⟨227, 12, 227, 36⟩) ⟨227, 4, 227, 36⟩) (
  .cons (.asg "rows" 4 ⟨228, 4, 228, 8⟩ (.comp (.callF 6 "_law_filled" ⟨228, 12, 228, 23⟩ (.cons (.var "words" 1 ⟨228, 24, 228, 29⟩) (.cons (.var "kind" 10 ⟨228, 31, 228, 35⟩) .nil)) ⟨228, 12, 228, 36⟩) (.one "kind" 10 ⟨228, 41, 228, 45⟩) (.e (.var "kinds" 2 ⟨228, 49, 228, 54⟩)) .nil { kind := .function, names := [(".0", .local), ("kind", .local), ("_law_filled", .globalImplicit), ("words", .free)], isGenerator := false, isCoroutine := false } [("kind", 10), ("words", 1)] ⟨228, 11, 228, 55⟩) ⟨228, 4, 228, 55⟩) (
  .cons (.asg "filled" 5 ⟨229, 4, 229, 10⟩ (.comp (.sub (.var "kinds" 2 ⟨229, 14, 229, 19⟩) (.var "k" 11 ⟨229, 20, 229, 21⟩) ⟨229, 14, 229, 22⟩) (.one "k" 11 ⟨229, 27, 229, 28⟩) (.range ⟨229, 32, 229, 37⟩ (.cons (.callB .len ⟨229, 38, 229, 41⟩ (.cons (.var "kinds" 2 ⟨229, 42, 229, 47⟩) .nil) ⟨229, 38, 229, 48⟩) .nil) ⟨229, 32, 229, 49⟩) (.cons (.cmp .NotEq (.sub (.var "rows" 4 ⟨229, 53, 229, 57⟩) (.var "k" 11 ⟨229, 58, 229, 59⟩) ⟨229, 53, 229, 60⟩) (.lst .nil ⟨229, 64, 229, 66⟩) ⟨229, 53, 229, 66⟩) .nil) { kind := .function, names := [(".0", .local), ("k", .local), ("kinds", .free), ("rows", .free)], isGenerator := false, isCoroutine := false } [("k", 11), ("kinds", 2), ("rows", 4)] ⟨229, 13, 229, 67⟩) ⟨229, 4, 229, 67⟩) (
  .cons (.ite (.cmp .NotEq (.comp (.var "kind" 12 ⟨230, 8, 230, 12⟩) (.one "kind" 12 ⟨230, 17, 230, 21⟩) (.e (.var "filled" 5 ⟨230, 25, 230, 31⟩)) (.cons (.cmp .NotIn (.var "kind" 12 ⟨230, 35, 230, 39⟩) (.var "shown" 3 ⟨230, 47, 230, 52⟩) ⟨230, 35, 230, 52⟩) .nil) { kind := .function, names := [(".0", .local), ("kind", .local), ("shown", .free)], isGenerator := false, isCoroutine := false } [("kind", 12), ("shown", 3)] ⟨230, 7, 230, 53⟩) (.lst .nil ⟨230, 57, 230, 59⟩) ⟨230, 7, 230, 59⟩) (.cons (.ret (.bool false 0 ⟨231, 15, 231, 20⟩) ⟨231, 8, 231, 20⟩) (.nil)) .nil ⟨230, 4, 231, 20⟩) (
  .cons (.ite (.boolop .Or (.cons (.cmp .Gt (.bin .Add (.callB .len ⟨232, 7, 232, 10⟩ (.cons (.var "filled" 5 ⟨232, 11, 232, 17⟩) .nil) ⟨232, 7, 232, 18⟩) (.int 1 0 ⟨232, 21, 232, 22⟩) ⟨232, 7, 232, 22⟩) (.callB .len ⟨232, 25, 232, 28⟩ (.cons (.var "words" 1 ⟨232, 29, 232, 34⟩) .nil) ⟨232, 25, 232, 35⟩) ⟨232, 7, 232, 35⟩) (.cons (.cmp .Gt (.callB .len ⟨232, 39, 232, 42⟩ (.cons (.var "words" 1 ⟨232, 43, 232, 48⟩) .nil) ⟨232, 39, 232, 49⟩) (.bin .Add (.callB .len ⟨232, 52, 232, 55⟩ (.cons (.var "shown" 3 ⟨232, 56, 232, 61⟩) .nil) ⟨232, 52, 232, 62⟩) (.int 1 0 ⟨232, 65, 232, 66⟩) ⟨232, 52, 232, 66⟩) ⟨232, 39, 232, 66⟩) .nil)) ⟨232, 7, 232, 66⟩) (.cons (.ret (.bool false 0 ⟨233, 15, 233, 20⟩) ⟨233, 8, 233, 20⟩) (.nil)) .nil ⟨232, 4, 233, 20⟩) (
  .cons (.ite (.cmp .NotEq (.callF 6 "_law_filled" ⟨234, 7, 234, 18⟩ (.cons (.var "words" 1 ⟨234, 19, 234, 24⟩) (.cons (.lst .nil ⟨234, 26, 234, 28⟩) .nil)) ⟨234, 7, 234, 29⟩) (.var "words" 1 ⟨234, 33, 234, 38⟩) ⟨234, 7, 234, 38⟩) (.cons (.ret (.bool false 0 ⟨235, 15, 235, 20⟩) ⟨235, 8, 235, 20⟩) (.nil)) .nil ⟨234, 4, 235, 20⟩) (
  .cons (.asg "together" 6 ⟨236, 4, 236, 12⟩ (.cmp .Eq (.comp (.var "row" 13 ⟨236, 16, 236, 19⟩) (.one "row" 13 ⟨236, 24, 236, 27⟩) (.e (.bin .Add (.lst (.cons (.var "words" 1 ⟨236, 32, 236, 37⟩) .nil) ⟨236, 31, 236, 38⟩) (.var "rows" 4 ⟨236, 41, 236, 45⟩) ⟨236, 31, 236, 45⟩)) (.cons (.not (.callF 7 "_law_hang_together" ⟨236, 53, 236, 71⟩ (.cons (.var "row" 13 ⟨236, 72, 236, 75⟩) .nil) ⟨236, 53, 236, 76⟩) ⟨236, 49, 236, 76⟩) .nil) { kind := .function, names := [(".0", .local), ("row", .local), ("_law_hang_together", .globalImplicit)], isGenerator := false, isCoroutine := false } [("row", 13)] ⟨236, 15, 236, 77⟩) (.lst .nil ⟨236, 81, 236, 83⟩) ⟨236, 15, 236, 83⟩) ⟨236, 4, 236, 83⟩) (
  .cons (.ret (.boolop .And (.cons (.cmp .Eq (.cmp .Eq (.callB .len ⟨237, 12, 237, 15⟩ (.cons (.var "words" 1 ⟨237, 16, 237, 21⟩) .nil) ⟨237, 12, 237, 22⟩) (.bin .Add (.callB .len ⟨237, 26, 237, 29⟩ (.cons (.var "shown" 3 ⟨237, 30, 237, 35⟩) .nil) ⟨237, 26, 237, 36⟩) (.int 1 0 ⟨237, 39, 237, 40⟩) ⟨237, 26, 237, 40⟩) ⟨237, 12, 237, 40⟩) (.var "together" 6 ⟨237, 45, 237, 53⟩) ⟨237, 11, 237, 53⟩) (.cons (.cmp .Eq (.cmp .Eq (.callB .len ⟨237, 59, 237, 62⟩ (.cons (.var "words" 1 ⟨237, 63, 237, 68⟩) .nil) ⟨237, 59, 237, 69⟩) (.bin .Add (.callB .len ⟨237, 73, 237, 76⟩ (.cons (.var "filled" 5 ⟨237, 77, 237, 83⟩) .nil) ⟨237, 73, 237, 84⟩) (.int 1 0 ⟨237, 87, 237, 88⟩) ⟨237, 73, 237, 88⟩) ⟨237, 59, 237, 88⟩) (.var "together" 6 ⟨237, 93, 237, 101⟩) ⟨237, 58, 237, 101⟩) .nil)) ⟨237, 11, 237, 101⟩) ⟨237, 4, 237, 101⟩) (.nil)))))))))))
noncomputable def law.n : Nat := 14
noncomputable def addh.sm : List (Str × Nat) := [("self", 0), ("_name", 1), ("_value", 2), ("_params", 3), ("parts", 4), ("k", 5), ("v", 6)]
noncomputable def addh.pn : List (Str × Nat) := [("self", 0), ("_name", 1), ("_value", 2), ("_params", 3)]
noncomputable def addh.body (tgt : Expr) (bdy : List Stmt) : ISs := (.cons (.asgO "parts" 4 ⟨166, 8, 166, 13⟩ (.lst .nil ⟨166, 16, 166, 18⟩) ⟨166, 8, 166, 18⟩) (
  .cons (.ite (.cmp .IsNot (.var "_value" 2 ⟨167, 11, 167, 17⟩) (.none 0 ⟨167, 25, 167, 29⟩) ⟨167, 11, 167, 29⟩) (.cons (.asg "_value" 2 ⟨168, 12, 168, 18⟩ (.conv "self" 0 ⟨168, 21, 168, 25⟩ ⟨168, 21, 168, 46⟩ (.var "_value" 2 ⟨168, 47, 168, 53⟩) false 0 ⟨168, 60, 168, 65⟩ ⟨168, 55, 168, 65⟩ ⟨168, 21, 168, 66⟩) ⟨168, 12, 168, 66⟩) (
    .cons (.app "parts" 4 ⟨169, 12, 169, 17⟩ ⟨169, 12, 169, 24⟩ (.var "_value" 2 ⟨169, 25, 169, 31⟩) ⟨169, 12, 169, 32⟩ ⟨169, 12, 169, 32⟩) (.nil))) .nil ⟨167, 8, 169, 32⟩) (
  .cons (.forE "_params" 3 ⟨170, 20, 170, 27⟩ ⟨170, 20, 170, 33⟩ ⟨170, 20, 170, 35⟩ tgt bdy ⟨170, 8, 176, 66⟩) (
  .cons (.happ "self" 0 ⟨177, 8, 177, 12⟩ ⟨177, 8, 177, 21⟩ ⟨177, 8, 177, 28⟩ (.tup (.cons (.conv "self" 0 ⟨177, 30, 177, 34⟩ ⟨177, 30, 177, 55⟩ (.var "_name" 1 ⟨177, 56, 177, 61⟩) true 0 ⟨177, 68, 177, 72⟩ ⟨177, 63, 177, 72⟩ ⟨177, 30, 177, 73⟩) (.cons (.meth .join (.str "; " 0 ⟨177, 75, 177, 79⟩) ⟨177, 75, 177, 84⟩ (.cons (.var "parts" 4 ⟨177, 85, 177, 90⟩) .nil) ⟨177, 75, 177, 91⟩) .nil)) 0 ⟨177, 29, 177, 92⟩) ⟨177, 8, 177, 93⟩ ⟨177, 8, 177, 93⟩) (.nil)))))
noncomputable def addh.n : Nat := 7
noncomputable def gall.sm : List (Str × Nat) := [("self", 0), ("name", 1)]
noncomputable def gall.pn : List (Str × Nat) := [("self", 0), ("name", 1)]
noncomputable def gall.pre : Option IS := (some (.asg "name" 1 ⟨134, 8, 134, 12⟩ (.conv "self" 0 ⟨134, 15, 134, 19⟩ ⟨134, 15, 134, 40⟩ (.meth .lower (.var "name" 1 ⟨134, 41, 134, 45⟩) ⟨134, 41, 134, 51⟩ .nil ⟨134, 41, 134, 53⟩) true 0 ⟨134, 60, 134, 64⟩ ⟨134, 55, 134, 64⟩ ⟨134, 15, 134, 65⟩) ⟨134, 8, 134, 65⟩))
noncomputable def gall.cmp : IE := (.comp (.sub (.var "kv" 2 ⟨135, 16, 135, 18⟩) (.int 1 0 ⟨135, 19, 135, 20⟩) ⟨135, 16, 135, 21⟩) (.one "kv" 2 ⟨135, 26, 135, 28⟩) (.v (.hlist 203 "self" 0 ⟨135, 32, 135, 36⟩ ⟨135, 32, 135, 45⟩)) (.cons (.cmp .Eq (.meth .lower (.sub (.var "kv" 2 ⟨135, 49, 135, 51⟩) (.int 0 0 ⟨135, 52, 135, 53⟩) ⟨135, 49, 135, 54⟩) ⟨135, 49, 135, 60⟩ .nil ⟨135, 49, 135, 62⟩) (.var "name" 1 ⟨135, 66, 135, 70⟩) ⟨135, 49, 135, 70⟩) .nil) { kind := .function, names := [(".0", .local), ("kv", .local), ("name", .free)], isGenerator := false, isCoroutine := false } [("kv", 2), ("name", 1)] ⟨135, 15, 135, 71⟩)
noncomputable def gall.p : Pos := ⟨135, 8, 135, 71⟩
noncomputable def gall.n : Nat := 3
end L3
end Mine
end
section
open PySem PySem.W PyProof.Rows
set_option Elab.async false
set_option maxRecDepth 100000
namespace Mine
set_option maxHeartbeats 8000000 in
open_top hd for PySem.Challenge.rw_pe0262_03
end Mine
end
section
open PySem PySem.W PySem.Calls PyProof.Rows
set_option Elab.async false
set_option maxRecDepth 100000
namespace Mine
namespace L3
section
variable {prog : Program} {w : World} {hB : Heap} {p : Program} {loose : List Str} {mg mb : Str → Option Value}
noncomputable abbrev K (w : World) : Frag := hd.heap_39 w.params
theorem pat1 (X : (K w).In hB) : IsPat hB 69 nameCode := ⟨_, _, _, _, _, _, _, X 69 _ rfl, rfl, rfl, rfl, _, _, _, X 68 _ rfl, rfl, by decide +kernel⟩
theorem pat2 (X : (K w).In hB) : IsPat hB 74 valCode := ⟨_, _, _, _, _, _, _, X 74 _ rfl, rfl, rfl, rfl, _, _, _, X 73 _ rfl, rfl, by decide +kernel⟩
theorem conv (TR : TopRead p loose mg mb hB) (X : (K w).In hB) : ConvOk prog w hB 104 :=
  conv_contract (K := K w) (a1 := 69) (a2 := 74) TR X (X 104 _ rfl) rfl rfl rfl rfl ⟨_, _, _, _, rfl, X _ _ rfl, rfl, rfl⟩ (by decide +kernel) (by decide +kernel) (by decide +kernel) rfl rfl (fun v z t b => by rfl)
    (by rfl) (by rfl) (by rfl) (by rfl) (pat1 X) (pat2 X) rfl
theorem newH (TR : TopRead p loose mg mb hB) (X : (K w).In hB) : HnOk prog w hB 203 :=
  new_ok (K := K w) (fI := 97) TR X (by rfl) (by rfl) (by rfl) (X 97 _ rfl) rfl rfl rfl rfl ⟨_, _, _, _, rfl, X _ _ rfl, rfl, rfl⟩ (by decide +kernel) rfl rfl
    (fun s x he => binds_K (X.keeps he) rfl rfl rfl rfl rfl) (by rfl) (by rfl) (by rfl) (by rfl) (by rfl) (by rfl)
noncomputable def G : List (Str × PyData) := [("ELLIPSIS_MARKER", .str "..."), ("_MAX_STRING_SIZE", .int 40), ("_MOVE_COST", .int 2), ("_CASE_COST", .int 1)]
theorem g_ok : ∀ x d, G.lookup x = some d → ∃ v, nsIn (K w) mainGlobals x = some (some v) ∧ ∀ h, Reads h v d [] := by
  have all : ∀ q ∈ G, ∃ v, nsIn (K w) mainGlobals q.1 = some (some v) ∧ ∀ h, Reads h v q.2 [] := by
    unfold G
    simp only [List.forall_mem_cons, List.not_mem_nil, false_implies, implies_true, and_true]
    exact ⟨⟨_, rfl, fun _ => .str _ _⟩, ⟨_, rfl, fun _ => .int _ _⟩, ⟨_, rfl, fun _ => .int _ _⟩, ⟨_, rfl, fun _ => .int _ _⟩⟩
  exact fun x d e => all (x, d) (lookup_mem e)
theorem bi_ok : ∀ b : BI, b ≠ .str → nsIn (K w) mainGlobals b.name = some none := by
  intro b h
  cases b <;> first | exact absurd rfl h | rfl
noncomputable def hG0 : Hs := ⟨203, fun _ _ _ => none, fun _ _ _ => none⟩
noncomputable def Γ0 : Nat → List PyData → Option PyData := fun _ _ => none
noncomputable def T0 : Tab := ⟨G, [], 203⟩
theorem hd0 {k : Nat} (hk : 3 ≤ k) (TR : TopRead p loose mg mb hB) (X : (K w).In hB) {hG : Hs} (hc : hG.cls = 203) (hg : ∀ m kvs ds d, hG.get m kvs ds = some d → ∃ f, isMeth (K w) hG.cls m f = true ∧ HrOk prog w hB hG.cls f (hG.get m) k) (hs : ∀ m kvs ds r, hG.set m kvs ds = some r → ∃ f, isMeth (K w) hG.cls m f = true ∧ HwOk prog w hB hG.cls f (hG.set m) k) : HdB prog w (K w) hB hG k where
  pos := hk
  name := by rw [hc]; rfl
  keep := by rw [hc]; rfl
  new := by rw [hc]; exact newH TR X
  ga := by rw [hc]; rfl
  gt := by rw [hc]; rfl
  cd := by rw [hc]; exact ⟨_, rfl, rfl⟩
  own := by rw [hc]; rfl
  conv := by rw [hc]; exact ⟨104, by rfl, conv TR X⟩
  get := hg
  set := hs
theorem base_of {k : Nat} {FT : List (Str × Nat × Addr)} {Γ : Nat → List PyData → Option PyData} {hG : Hs} (TR : TopRead p loose mg mb hB) (X : (K w).In hB) (hc : hG.cls = 203) (D : HdB prog w (K w) hB hG k)
    (hf : ∀ q ∈ FT, nsIn (K w) mainGlobals q.1 = some (some (.ref q.2.2)) ∧ FnOk prog w hB q.2.2 (Γ q.2.1) k) : Base prog w (K w) hB ⟨G, FT, 203⟩ Γ hG k where
  hd := D
  hc := hc.symm
  top := ⟨_, _, _, _, TR⟩
  kin := X
  g := g_ok
  ft := fun x f a e => hf (x, f, a) (lookup_mem e)
  bi := bi_ok
  range := by rfl
  list := by rfl
theorem base0 (TR : TopRead p loose mg mb hB) (X : (K w).In hB) : Base prog w (K w) hB T0 Γ0 hG0 3 :=
  base_of TR X rfl (hd0 (Nat.le_refl 3) TR X rfl (fun _ _ _ _ e => by cases e) (fun _ _ _ _ e => by cases e)) (fun q h => by cases h)
theorem gall_ok (TR : TopRead p loose mg mb hB) (X : (K w).In hB) : HrOk prog w hB 203 142 (runList Γ0 hG0 gall.pre gall.cmp gall.pn gall.n) 4 :=
  hr_run_ok (sm := gall.sm) (pn := gall.pn) rfl (base0 TR X) (X 142 _ rfl) rfl rfl rfl rfl rfl ⟨_, _, _, _, rfl, X _ _ rfl, rfl, rfl⟩ (by decide +kernel) (by decide +kernel) (by decide +kernel)
    (fun vs h => by obtain ⟨a, b, rfl⟩ := len2 h; rfl)
noncomputable def addhSpec (kvs : List PyData) : List PyData → Option (List PyData × PyData)
  | [.str n, .str v] => if cleanS n && cleanS v && decide (kvs.length ≤ bigN) && JoinOk "; " [v] then some (kvs ++ [.tuple [.str n, .str (Txt.join "; " [v])]], .none) else none
  | _ => none
theorem addh_run {Γ : Nat → List PyData → Option PyData} {tgt : Expr} {bdy : List Stmt} {a : Nat} {kvs : List PyData} {n v : Str} (h1 : cleanS n = true) (h2 : cleanS v = true) (h3 : kvs.length ≤ bigN) (h4 : JoinOk "; " [v] = true) :
    exs Γ hG0 (addh.body tgt bdy) (putL addh.pn [.hd 203 (some a) kvs, .d (.str n), .d (.str v), .ed] (List.replicate addh.n none)) =
      some (.next, [some (.hd 203 (some a) (kvs ++ [.tuple [.str n, .str (Txt.join "; " [v])]])), some (.d (.str n)), some (.d (.str v)), some .ed, some (.ml [.str v]), none, none]) := by
  have h3' : kvs.length ≤ 4096 := h3
  simp [addh.body, addh.pn, addh.n, exs_e0, exs_e1, ex_e0, ex_e1, ex_e2, ex_e3, ex_e4, ex_e5, ex_e6, ex_e7, ex_e8, ex_e9, ex_e10, ex_e11, ex_e12, ex_e13, ex_e14, ex_e15, ex_e16, ex_e17, ev_e0, ev_e1, ev_e2, ev_e3, ev_e4, ev_e5, ev_e6, ev_e7, ev_e8, ev_e9, ev_e10, ev_e11, ev_e12, ev_e13, ev_e14, ev_e15, ev_e16, ev_e17, ev_e18, ev_e19, ev_e20, ev_e21, ev_e22, ev_e24, evs_e0, evs_e1, evsV_e0, evsV_e1, view, Loc.hdr, Loc.at, Loc.put, putL, h1, h2, h3', h4, hG0, IE.news, cmpop, isD, truth, meth, joinD, strsOf, bigN]
theorem addh_ok (TR : TopRead p loose mg mb hB) (X : (K w).In hB) : HwOk prog w hB 203 200 addhSpec 4 := by
  refine hw_ok (sm := addh.sm) (pn := addh.pn) (N := addh.n) (ed := true) (sn := "self") (base0 TR X) (X 200 _ rfl) rfl (body := addh.body _ _) rfl rfl rfl rfl ⟨_, _, _, _, rfl, X _ _ rfl, rfl, rfl⟩ (by decide +kernel) (by decide +kernel) (by decide +kernel) (by decide +kernel) ?_
    (fun vs h => by obtain ⟨a, b, c, rfl⟩ := len3 (Nat.add_right_cancel (m := 1) (n := _) (k := 3) h); rfl) ?_
  · exact ⟨203, _, by decide, X 203 _ rfl⟩
  · intro kvs ds kvs' d e
    unfold addhSpec at e
    split at e
    · rename_i n v
      split at e
      · rename_i h
        simp only [Bool.and_eq_true, decide_eq_true_eq] at h
        obtain ⟨⟨⟨h1, h2⟩, h3⟩, h4⟩ := h
        cases e
        exact ⟨rfl, fun a => ⟨.next, _, addh_run h1 h2 h3 h4, rfl, rfl⟩⟩
      · cases e
    · cases e
end
end L3
end Mine
end
section
open PySem PySem.W PySem.Calls PyProof.Rows
set_option Elab.async false
set_option maxRecDepth 100000
namespace Mine
mutual
noncomputable def eqP : PyData → PyData → Bool
  | .none, .none => true
  | .bool a, .bool b => a == b
  | .int a, .int b => a == b
  | .str a, .str b => a.cps.toList == b.cps.toList
  | .list a, .list b => eqPs a b
  | .tuple a, .tuple b => eqPs a b
  | _, _ => false
noncomputable def eqPs : List PyData → List PyData → Bool
  | [], [] => true
  | a :: r, b :: t => eqP a b && eqPs r t
  | _, _ => false
end
mutual
theorem eqP_eq : ∀ {a b : PyData}, eqP a b = true → a = b
  | .none, b, h => by cases b <;> first | rfl | cases h
  | .bool a, b, h => by cases b <;> first | (rw [eq_of_beq (show (a == _) = true from h)]) | cases h
  | .int a, b, h => by cases b <;> first | (rw [eq_of_beq (show (a == _) = true from h)]) | cases h
  | .str a, b, h => by
    cases b with
    | str b =>
      have h' := eq_of_beq (show (a.cps.toList == b.cps.toList) = true from h)
      obtain ⟨a⟩ := a; obtain ⟨b⟩ := b
      simp only [Array.toList_inj] at h'
      rw [h']
    | _ => cases h
  | .list a, b, h => by
    cases b with
    | list b => rw [eqPs_eq (show eqPs a b = true from h)]
    | _ => cases h
  | .tuple a, b, h => by
    cases b with
    | tuple b => rw [eqPs_eq (show eqPs a b = true from h)]
    | _ => cases h
  | .dict a, b, h => by cases b <;> cases h
theorem eqPs_eq : ∀ {a b : List PyData}, eqPs a b = true → a = b
  | [], b, h => by cases b <;> first | rfl | cases h
  | a :: r, b, h => by
    cases b with
    | nil => cases h
    | cons b t =>
      have h' : (eqP a b && eqPs r t) = true := h
      rw [Bool.and_eq_true] at h'
      rw [eqP_eq h'.1, eqPs_eq h'.2]
end
noncomputable def eqO : Option PyData → PyData → Bool
  | some a, b => eqP a b
  | none, _ => false
theorem eqO_eq {a : Option PyData} {b : PyData} (h : eqO a b = true) : a = some b := by
  cases a with
  | none => cases h
  | some a => rw [eqP_eq (show eqP a b = true from h)]
theorem FnOk.sub {prog : Program} {w : World} {hB : Heap} {f : Addr} {spec spec' : List PyData → Option PyData} {k : Nat} (x : FnOk prog w hB f spec k) (h : ∀ ds d, spec' ds = some d → spec ds = some d) : FnOk prog w hB f spec' k := ⟨x.1, fun A s P vs ds d a b c e g => x.2 A s P vs ds d a b c e (h ds d g)⟩
namespace L3
noncomputable def subcR := runF Γ0 hG0 subc.body subc.pn subc.n
noncomputable def lettR := runF Γ0 hG0 lett.body lett.pn lett.n
noncomputable def elliR := runF Γ0 hG0 elli.body elli.pn elli.n
noncomputable def wrdsR := runF Γ0 hG0 wrds.body wrds.pn wrds.n
noncomputable def codes : List Nat := [97, 98, 99, 100, 65, 66, 67, 68, 46]
noncomputable def subcS : List PyData → Option PyData
  | [.str a, .str b] => match a.cps.toList, b.cps.toList with
    | [c], [d] => if codes.contains c && codes.contains d then some (.int (if c == d then 0 else if c ||| 32 == d ||| 32 then 1 else 2)) else none
    | _, _ => none
  | _ => none
theorem subc_tab : (codes.all fun c => codes.all fun d => eqO (subcR [.str ⟨#[c]⟩, .str ⟨#[d]⟩]) (.int (if c == d then 0 else if c ||| 32 == d ||| 32 then 1 else 2))) = true := by decide +kernel
theorem subcS_le : ∀ ds d, subcS ds = some d → subcR ds = some d := by
  intro ds d e
  unfold subcS at e
  split at e
  · rename_i a b
    split at e
    · rename_i c d' hc hd
      split at e
      · rename_i h
        simp only [Bool.and_eq_true, List.contains_iff_mem] at h
        cases e
        have t := subc_tab
        simp only [List.all_eq_true] at t
        obtain ⟨⟨l⟩⟩ := a; obtain ⟨⟨l'⟩⟩ := b
        simp only at hc hd
        subst hc hd
        exact eqO_eq (t c h.1 d' h.2)
      · cases e
    · cases e
  · cases e
end L3
end Mine
end
section
open PySem PySem.W PySem.Calls PyProof.Rows
set_option Elab.async false
set_option maxRecDepth 100000
namespace Mine
namespace L3
section
variable {prog : Program} {w : World} {hB : Heap} {p : Program} {loose : List Str} {mg mb : Str → Option Value}
theorem subc_ok (TR : TopRead p loose mg mb hB) (X : (K w).In hB) : FnOk prog w hB 52 subcR 4 :=
  fn_run_ok (sm := subc.sm) (base0 TR X) (X 52 _ rfl) rfl rfl rfl rfl rfl ⟨_, _, _, _, rfl, X _ _ rfl, rfl, rfl⟩ (by decide +kernel) (by decide +kernel) (fun vs h => by obtain ⟨a, b, rfl⟩ := len2 h; rfl)
theorem subcS_ok (TR : TopRead p loose mg mb hB) (X : (K w).In hB) : FnOk prog w hB 52 subcS 4 := (subc_ok TR X).sub subcS_le
theorem lett_ok (TR : TopRead p loose mg mb hB) (X : (K w).In hB) : FnOk prog w hB 217 lettR 4 :=
  fn_run_ok (sm := lett.sm) (base0 TR X) (X 217 _ rfl) rfl rfl rfl rfl rfl ⟨_, _, _, _, rfl, X _ _ rfl, rfl, rfl⟩ (by decide +kernel) (by decide +kernel) (fun vs h => by obtain ⟨a, b, rfl⟩ := len2 h; rfl)
theorem elli_ok (TR : TopRead p loose mg mb hB) (X : (K w).In hB) : FnOk prog w hB 45 elliR 4 :=
  fn_run_ok (sm := elli.sm) (base0 TR X) (X 45 _ rfl) rfl rfl rfl rfl rfl ⟨_, _, _, _, rfl, X _ _ rfl, rfl, rfl⟩ (by decide +kernel) (by decide +kernel) (fun vs h => by obtain ⟨a, b, rfl⟩ := len2 h; rfl)
theorem wrds_ok (TR : TopRead p loose mg mb hB) (X : (K w).In hB) : FnOk prog w hB 212 wrdsR 4 :=
  fn_run_ok (sm := wrds.sm) (base0 TR X) (X 212 _ rfl) rfl rfl rfl rfl rfl ⟨_, _, _, _, rfl, X _ _ rfl, rfl, rfl⟩ (by decide +kernel) (by decide +kernel) (fun vs h => by obtain ⟨a, rfl⟩ := len1 h; rfl)
noncomputable def hG1 : Hs := ⟨203, fun m => if m = "get_all" then runList Γ0 hG0 gall.pre gall.cmp gall.pn gall.n else fun _ _ => none, fun m => if m = "add_header" then addhSpec else fun _ _ => none⟩
theorem hd1 {k : Nat} (hk : 4 ≤ k) (TR : TopRead p loose mg mb hB) (X : (K w).In hB) : HdB prog w (K w) hB hG1 k := by
  refine hd0 (Nat.le_trans (by decide) hk) TR X rfl (fun m kvs ds d e => ?_) (fun m kvs ds d e => ?_)
  · by_cases q : m = "get_all"
    · subst q; exact ⟨142, by rfl, (gall_ok TR X).le hk⟩
    · unfold hG1 at e; simp only [if_neg q] at e; cases e
  · by_cases q : m = "add_header"
    · subst q; exact ⟨200, by rfl, (addh_ok TR X).le hk⟩
    · unfold hG1 at e; simp only [if_neg q] at e; cases e
noncomputable def FT1 : List (Str × Nat × Addr) := [("_substitution_cost", 0, 52), ("_law_letters", 1, 217), ("_ellipsis_match", 2, 45), ("_law_words", 3, 212)]
noncomputable def Γ1 : Nat → List PyData → Option PyData
  | 0 => subcS | 1 => lettR | 2 => elliR | 3 => wrdsR | _ => fun _ => none
theorem base1 (TR : TopRead p loose mg mb hB) (X : (K w).In hB) : Base prog w (K w) hB ⟨G, FT1, 203⟩ Γ1 hG1 4 := by
  refine base_of TR X rfl (hd1 (Nat.le_refl _) TR X) ?_
  unfold FT1
  simp only [List.forall_mem_cons, List.not_mem_nil, false_implies, implies_true, and_true]
  exact ⟨⟨rfl, subcS_ok TR X⟩, ⟨rfl, lett_ok TR X⟩, ⟨rfl, elli_ok TR X⟩, ⟨rfl, wrds_ok TR X⟩⟩
noncomputable def leveR := runF Γ1 hG1 leve.body leve.pn leve.n
noncomputable def showR := runF Γ1 hG1 show.body show.pn show.n
noncomputable def fillR := runF Γ1 hG1 fill.body fill.pn fill.n
theorem leve_ok (TR : TopRead p loose mg mb hB) (X : (K w).In hB) : FnOk prog w hB 59 leveR 5 :=
  fn_run_ok (sm := leve.sm) (base1 TR X) (X 59 _ rfl) rfl rfl rfl rfl rfl ⟨_, _, _, _, rfl, X _ _ rfl, rfl, rfl⟩ (by decide +kernel) (by decide +kernel) (fun vs h => by obtain ⟨a, b, c, rfl⟩ := len3 h; rfl)
theorem show_ok (TR : TopRead p loose mg mb hB) (X : (K w).In hB) : FnOk prog w hB 224 showR 5 :=
  fn_run_ok (sm := show.sm) (base1 TR X) (X 224 _ rfl) rfl rfl rfl rfl rfl ⟨_, _, _, _, rfl, X _ _ rfl, rfl, rfl⟩ (by decide +kernel) (by decide +kernel) (fun vs h => by obtain ⟨a, b, rfl⟩ := len2 h; rfl)
theorem fill_ok (TR : TopRead p loose mg mb hB) (X : (K w).In hB) : FnOk prog w hB 229 fillR 5 :=
  fn_run_ok (sm := fill.sm) (base1 TR X) (X 229 _ rfl) rfl rfl rfl rfl rfl ⟨_, _, _, _, rfl, X _ _ rfl, rfl, rfl⟩ (by decide +kernel) (by decide +kernel) (fun vs h => by obtain ⟨a, b, rfl⟩ := len2 h; rfl)
noncomputable def FT2 : List (Str × Nat × Addr) := [("_substitution_cost", 0, 52), ("_law_letters", 1, 217), ("_ellipsis_match", 2, 45), ("_law_words", 3, 212), ("_levenshtein_distance", 4, 59), ("_law_shown", 5, 224), ("_law_filled", 6, 229)]
noncomputable def Γ2 : Nat → List PyData → Option PyData
  | 0 => subcS | 1 => lettR | 2 => elliR | 3 => wrdsR | 4 => leveR | 5 => showR | 6 => fillR | _ => fun _ => none
theorem base2 (TR : TopRead p loose mg mb hB) (X : (K w).In hB) : Base prog w (K w) hB ⟨G, FT2, 203⟩ Γ2 hG1 5 := by
  refine base_of TR X rfl (hd1 (by decide) TR X) ?_
  unfold FT2
  simp only [List.forall_mem_cons, List.not_mem_nil, false_implies, implies_true, and_true]
  exact ⟨⟨rfl, (subcS_ok TR X).le (by decide)⟩, ⟨rfl, (lett_ok TR X).le (by decide)⟩, ⟨rfl, (elli_ok TR X).le (by decide)⟩, ⟨rfl, (wrds_ok TR X).le (by decide)⟩, ⟨rfl, leve_ok TR X⟩, ⟨rfl, show_ok TR X⟩, ⟨rfl, fill_ok TR X⟩⟩
noncomputable def hangR := runF Γ2 hG1 hang.body hang.pn hang.n
theorem hang_ok (TR : TopRead p loose mg mb hB) (X : (K w).In hB) : FnOk prog w hB 234 hangR 6 :=
  fn_run_ok (sm := hang.sm) (base2 TR X) (X 234 _ rfl) rfl rfl rfl rfl rfl ⟨_, _, _, _, rfl, X _ _ rfl, rfl, rfl⟩ (by decide +kernel) (by decide +kernel) (fun vs h => by obtain ⟨a, rfl⟩ := len1 h; rfl)
noncomputable def FT3 : List (Str × Nat × Addr) := [("_substitution_cost", 0, 52), ("_law_letters", 1, 217), ("_ellipsis_match", 2, 45), ("_law_words", 3, 212), ("_levenshtein_distance", 4, 59), ("_law_shown", 5, 224), ("_law_filled", 6, 229), ("_law_hang_together", 7, 234)]
noncomputable def Γ3 : Nat → List PyData → Option PyData
  | 0 => subcS | 1 => lettR | 2 => elliR | 3 => wrdsR | 4 => leveR | 5 => showR | 6 => fillR | 7 => hangR | _ => fun _ => none
theorem base3 (TR : TopRead p loose mg mb hB) (X : (K w).In hB) : Base prog w (K w) hB ⟨G, FT3, 203⟩ Γ3 hG1 6 := by
  refine base_of TR X rfl (hd1 (by decide) TR X) ?_
  unfold FT3
  simp only [List.forall_mem_cons, List.not_mem_nil, false_implies, implies_true, and_true]
  exact ⟨⟨rfl, (subcS_ok TR X).le (by decide)⟩, ⟨rfl, (lett_ok TR X).le (by decide)⟩, ⟨rfl, (elli_ok TR X).le (by decide)⟩, ⟨rfl, (wrds_ok TR X).le (by decide)⟩, ⟨rfl, (leve_ok TR X).le (by decide)⟩, ⟨rfl, (show_ok TR X).le (by decide)⟩, ⟨rfl, (fill_ok TR X).le (by decide)⟩, ⟨rfl, hang_ok TR X⟩⟩
end
end L3
end Mine
end
section
open PySem PySem.W PySem.Calls PyProof.Rows
set_option Elab.async false
set_option maxRecDepth 100000
namespace Mine
namespace L3
theorem inCallC_of {s : Shared} {h₁ : Heap} {tk : Nat} {m cm : Str → Option Value} {names : List (Str × NameKind)} {cells : List (Addr × Obj)} (F : Fr s.heap s.heap.objs.size h₁ m) (N : News s.heap s.heap.objs.size h₁ cells) (Y : CellsAre cm (cellsFrom (s.heap.objs.size + 1) names []) cells) :
    InCallC s s.heap.objs.size m (cellsFrom (s.heap.objs.size + 1) names []) cm { s with heap := h₁, toks := tk } := by
  have cok := cellsFrom_ok names (s.heap.push { cls := .type "dict", data := .dict #[] }) (s.heap.objs.size + 1) [] ⟨fun _ _ hm => (nomatch hm), List.Pairwise.nil⟩ (by rw [Heap.size_push]; exact Nat.le_refl _)
  rw [Heap.size_push] at cok
  refine ⟨⟨⟨_, _, rfl⟩, F.ns, F.keep, Nat.le_refl _⟩, fun n c hc => ?_, cok.apart, fun n c hm => (cok.empty n c hm).2⟩
  have hm := PySem.mem_of_lookup hc
  clear cok
  generalize cellsFrom (s.heap.objs.size + 1) names [] = cs at Y hc hm
  induction Y with
  | nil => simp at hc
  | @cons n' c' o cs cells hd _ ih =>
    rw [List.lookup_cons] at hc
    cases hb : n == n' with
    | true =>
      rw [hb] at hc; simp only at hc; cases hc
      have e := eq_of_beq hb
      subst e
      exact ⟨o, (N _ (List.mem_cons_self ..)).1, hd⟩
    | false =>
      rw [hb] at hc
      exact ih (fun q hq => N q (List.mem_cons_of_mem _ hq)) hc (PySem.mem_of_lookup hc)
theorem ends {M : Model} {A : Around} {t : Sem Flow} {Q : Flow → Shared → Prop} {E : Value → Shared → Prop} {s : Shared} {h₀ h₁ : Heap} {L : Addr} {m : Str → Option Value} (_F : Fr h₀ L h₁ m) (h1 : wpAny M A t (fun f s' => f = .ret (.bool true) ∧ ∃ h' tk, s' = { s with heap := h', toks := tk } ∧ ∀ b o, h₀.get? b = some o → h'.get? b = some o) NoE s)
    (h2 : ∀ h' tk, (∀ b o, h₀.get? b = some o → h'.get? b = some o) → Q (.ret (.bool true)) { s with heap := h', toks := tk }) : wpAny M A t Q E s :=
  wpAny_mono h1 (fun f s' g => by obtain ⟨rfl, h', tk, rfl, k⟩ := g; exact h2 h' tk k) fun _ _ f => f.elim
theorem ints_rvs {P : Addr → Prop} {h : Heap} {vs : List Value} {ns : List Int} (x : IntsAre vs ns) : RVs P h (ns.map .int) vs := by
  induction x with
  | nil => exact RVs.nil
  | cons n t _ ih => exact RVs.cons (RV.int _ _) ih
theorem walk {w : World} {s : Shared} {h₁ : Heap} {tk : Nat} {p : Program} {loose : List Str} {mg mb : Str → Option Value} {prog : Program} {name : Str} {sc : Scope} {f : Addr} {cd : Value} {cells : List (Addr × Obj)} {l : Addr} {vs : List Value} {ns : List Int} {body : List Stmt}
    (TR : TopRead p loose mg mb s.heap) (X : (K w).In s.heap) (F : Fr s.heap s.heap.objs.size h₁ (bindL (envOfC name sc s.heap.objs.size f cd).kindOf [("script", .ref l)] fun _ => none)) (N : News s.heap s.heap.objs.size h₁ cells)
    (Y : CellsAre (bindC (envOfC name sc s.heap.objs.size f cd).kindOf [("script", .ref l)] fun _ => none) (cellsFrom (s.heap.objs.size + 1) sc.names []) cells) (hs : fnSm sc law.sm law.pn = true) (hw : wfSs ⟨G, FT3, 203⟩ sc.names law.sm law.body = true)
    (hl : s.heap.IsList l vs.toArray) (hi : IntsAre vs ns) (hb : body = law.body.ast) (hres : ∃ σ', exs Γ3 hG1 law.body (putMany law.pn [.list (ns.map .int)] (List.replicate law.n none)) = some (.ret (.bool true), σ')) :
    wpAny (model prog w) (callerA.deeper (envOfC name sc s.heap.objs.size f cd)) (execs body (envOfC name sc s.heap.objs.size f cd)) (fun f s' => f = .ret (.bool true) ∧ ∃ h' tk, s' = { s with heap := h', toks := tk } ∧ ∀ b o, s.heap.get? b = some o → h'.get? b = some o) NoE { s with heap := h₁, toks := tk } := by
  subst hb
  obtain ⟨σ', hex⟩ := hres
  have B := base3 (prog := prog) TR X
  have x := inCallC_of (tk := tk) F N Y
  have hr : Room (callerA.deeper (envOfC name sc s.heap.objs.size f cd)) 6 := ⟨by simp only [depth_deeper, depth_caller]; decide, by simp only [units_deeper, units_caller]; decide, rfl⟩
  have R := Rel.enterL (env := envOfC name sc s.heap.objs.size f cd) (hB := s.heap) (hb := s.heap) (P₀ := fun _ => True) (own := fun _ => none) (vs := [.ref l]) (ls := [.d (.list (ns.map .int))]) (N := law.n) (n := s.heap.objs.size + 1) (k := 6) (sm := law.sm) (pn := law.pn) hs rfl rfl rfl (get_size_none _) (Ext.refl _) (Ext.refl _) hr (fun _ _ => trivial) rfl rfl (fun i a h => (nomatch h)) (fun i j a h => (nomatch h))
    (fun j t l' ht e => by
      cases j with
      | zero => cases e; exact ⟨_, rfl, l, vs, rfl, ⟨trivial, fun _ z => (nomatch z)⟩, hl, ints_rvs hi⟩
      | succ j => simp at e) x
  have h3 : ∀ x ∈ law.sm, law.sm.lookup x.1 = some x.2 := by decide +kernel
  have hex' : exs Γ3 hG1 law.body (putL law.pn [.d (.list (ns.map .int))] (List.replicate law.n none)) = some (.ret (.bool true), σ') := hex
  refine wpAny_mono (exs_ok B h3 law.body _ _ _ _ _ _ hw R hex') (fun fl s' g => ?_) fun _ _ f => f
  obtain ⟨own', R', o', w', v, rfl, q⟩ := g
  rw [q.inv_bool]
  obtain ⟨⟨h', tk', rfl⟩, o2, o3⟩ := o'
  refine ⟨rfl, h', tk', rfl, fun b o e => o2 b o (F.keep b o e) ?_ fun _ z => (nomatch z)⟩
  have above : ∀ y c, (envOfC name sc s.heap.objs.size f cd).cells.lookup y = some c → s.heap.get? c = none := fun y c hy => by
    have := x.above y c (PySem.mem_of_lookup hy)
    cases q : s.heap.get? c with
    | none => rfl
    | some o => exact absurd (Heap.lt_size q) (Nat.lt_asymm this)
  rintro (z | ⟨y, hy⟩)
  · have : s.heap.get? b = none := z ▸ get_size_none _
    rw [this] at e; cases e
  · rw [above y b hy] at e; cases e
noncomputable def Says (ns : List Int) : Prop := ∃ σ', exs Γ3 hG1 law.body (putMany law.pn [.list (ns.map .int)] (List.replicate law.n none)) = some (.ret (.bool true), σ')
set_option maxHeartbeats 8000000 in
theorem ent (all : ∀ ns : List Int, ns.length ≤ 63 → Says ns) : PySem.Challenge.rw_pe0262_03.Holds := by
  refine Mine.hd ?_
  intro w s₀ s₁ mg mb G Y fa o pm cd doc dV kV ho hd hcd hD hmg hg args vals as hpre hlay hrd hwl hlo
  have KX := kIn_of Y
  refine Ground.open G ?_
  intro T B D TE TW
  try (refine guard_noD D (by decide +kernel) ?_; clear D)
  have TA := at_of_top T
  clear hmg
  wrow_args hpre hlay hrd hwl hlo
  refine enter_call ?_
  w_top on
  refine codeAny_mono ?_ (fun _ _ g => GoodW.toG g)
  have K0 := below_caller (Top.heap T)
  w_call any ho hd hcd hD T F
  clear hd TA
  with_reducible rename Fr _ _ _ _ => F
  with_reducible rename News _ _ _ _ => N
  with_reducible rename CellsAre _ _ _ => Y
  with_reducible rename Frag.In _ _ => X
  with_reducible rename Top _ _ _ _ _ _ => T
  with_reducible rename IntsAre _ _ => I
  with_reducible rename Heap.IsList _ _ _ => L
  rename ¬ _ => hlen
  refine ends F ?_ ?_
  · exact walk (topRead_of T) X F N Y (by decide +kernel) (by decide +kernel) L I rfl (all _ (by omega))
  · intro h' tk hk
    exact ⟨.inl ⟨.bool true, .bool true, [], rfl, fun _ => rfl, .bool true, by wrow_post, fun _ => ⟨List.nodup_nil, fun _ h => (nomatch h)⟩⟩, hk, rfl, by assumption⟩
end L3
end Mine
end
section
open PySem PySem.W PySem.Calls PyProof.Rows
set_option Elab.async false
set_option maxRecDepth 100000
namespace Mine
section
variable {Γ : Nat → List PyData → Option PyData} {hG : Hs}
theorem forL_pre {β : Type} {f : PyData → Loc → Option (Fl × Loc)} {w : β → PyData} (I : List β → Loc → Prop) : ∀ (post pre : List β), (∀ pre' b post', pre ++ post = pre' ++ b :: post' → ∀ σ, I pre' σ → ∃ σ', f (w b) σ = some (.next, σ') ∧ I (pre' ++ [b]) σ') → ∀ σ, I pre σ → ∃ σ', forL f (post.map w) σ = some (.next, σ') ∧ I (pre ++ post) σ'
  | [], pre, h, σ, i => ⟨σ, rfl, by simpa using i⟩
  | b :: r, pre, h, σ, i => by
    obtain ⟨σ', e, i'⟩ := h pre b r rfl σ i
    obtain ⟨σ'', e2, i2⟩ := forL_pre I r (pre ++ [b]) (fun pre' b' p q => h pre' b' p (by simpa using q)) σ' i'
    exact ⟨σ'', by simp only [List.map_cons, forL, e]; exact e2, by simpa using i2⟩
noncomputable def Xs (Γ : Nat → List PyData → Option PyData) (hG : Hs) (ss : ISs) (σ : Loc) (Q : Fl → Loc → Prop) : Prop := ∃ fl σ', exs Γ hG ss σ = some (fl, σ') ∧ Q fl σ'
variable {r b o : ISs} {σ : Loc} {Q : Fl → Loc → Prop}
theorem Xs.nil (h : Q .next σ) : Xs Γ hG .nil σ Q := ⟨_, _, rfl, h⟩
theorem Xs.step {s : IS} {σ' : Loc} (e : ex Γ hG s σ = some (.next, σ')) (h : Xs Γ hG r σ' Q) : Xs Γ hG (.cons s r) σ Q := by
  obtain ⟨fl, σ2, e2, q⟩ := h
  exact ⟨fl, σ2, by simp only [exs_e0, exs_e1, e]; exact e2, q⟩
theorem Xs.last {s : IS} {σ' : Loc} {d : PyData} (e : ex Γ hG s σ = some (.ret d, σ')) (h : Q (.ret d) σ') : Xs Γ hG (.cons s r) σ Q :=
  ⟨_, σ', by simp only [exs_e0, exs_e1, e], h⟩
theorem Xs.asg {x : Str} {i : Nat} {px p : Pos} {e : IE} {d : PyData} (h : ev Γ hG e σ = some d) (k : Xs Γ hG r (σ.put i (.d d)) Q) : Xs Γ hG (.cons (.asg x i px e p) r) σ Q := Xs.step (by simp only [ex_e0, ex_e1, ex_e2, ex_e3, ex_e4, ex_e5, ex_e6, ex_e7, ex_e8, ex_e9, ex_e10, ex_e11, ex_e12, ex_e13, ex_e14, ex_e15, ex_e16, ex_e17, h]) k
theorem Xs.asgO {x : Str} {i : Nat} {px p : Pos} {e : IE} {xs : List PyData} (hn : e.news = true) (h : ev Γ hG e σ = some (.list xs)) (k : Xs Γ hG r (σ.put i (.ml xs)) Q) : Xs Γ hG (.cons (.asgO x i px e p) r) σ Q := Xs.step (by simp only [ex_e0, ex_e1, ex_e2, ex_e3, ex_e4, ex_e5, ex_e6, ex_e7, ex_e8, ex_e9, ex_e10, ex_e11, ex_e12, ex_e13, ex_e14, ex_e15, ex_e16, ex_e17, h, hn]) k
theorem Xs.app {x : Str} {i : Nat} {px ap pc p : Pos} {e : IE} {xs : List PyData} {d : PyData} (h0 : σ.at i = some (.ml xs)) (hl : xs.length ≤ bigN) (h : ev Γ hG e σ = some d) (k : Xs Γ hG r (σ.put i (.ml (xs ++ [d]))) Q) : Xs Γ hG (.cons (.app x i px ap e pc p) r) σ Q := Xs.step (by simp only [ex_e0, ex_e1, ex_e2, ex_e3, ex_e4, ex_e5, ex_e6, ex_e7, ex_e8, ex_e9, ex_e10, ex_e11, ex_e12, ex_e13, ex_e14, ex_e15, ex_e16, ex_e17, h, h0, if_pos hl]) k
theorem Xs.ret {e : IE} {p : Pos} {d : PyData} (h : ev Γ hG e σ = some d) (k : Q (.ret d) σ) : Xs Γ hG (.cons (.ret e p) r) σ Q := Xs.last (by simp only [ex_e0, ex_e1, ex_e2, ex_e3, ex_e4, ex_e5, ex_e6, ex_e7, ex_e8, ex_e9, ex_e10, ex_e11, ex_e12, ex_e13, ex_e14, ex_e15, ex_e16, ex_e17, h]) k
theorem Xs.frzRet {e : IE} {p : Pos} {i : Nat} {xs : List PyData} {d : PyData} (h0 : σ.at i = some (.ml xs)) (h : ev Γ hG e (σ.put i (.d (.list xs))) = some d) (k : Q (.ret d) (σ.put i (.d (.list xs)))) : Xs Γ hG (.cons (.frz i (.ret e p)) r) σ Q := Xs.last (by simp only [ex_e0, ex_e1, ex_e2, ex_e3, ex_e4, ex_e5, ex_e6, ex_e7, ex_e8, ex_e9, ex_e10, ex_e11, ex_e12, ex_e13, ex_e14, ex_e15, ex_e16, ex_e17, h, h0]) k
theorem Xs.ite {t : IE} {p : Pos} {c : Bool} (h : (view t σ (ev Γ hG t σ)).bind truth = some c) (k : Xs Γ hG (if c then b else o) σ fun fl σ' => match fl with | .next => Xs Γ hG r σ' Q | .ret d => Q (.ret d) σ') : Xs Γ hG (.cons (.ite t b o p) r) σ Q := by
  obtain ⟨fl, σ', e, q⟩ := k
  have e' : ex Γ hG (.ite t b o p) σ = some (fl, σ') := by
    cases c <;> simp only [ex_e0, ex_e1, ex_e2, ex_e3, ex_e4, ex_e5, ex_e6, ex_e7, ex_e8, ex_e9, ex_e10, ex_e11, ex_e12, ex_e13, ex_e14, ex_e15, ex_e16, ex_e17, h] <;> exact e
  cases fl with
  | next => exact Xs.step e' q
  | ret d => exact Xs.last e' q
theorem Xs.mono {Q' : Fl → Loc → Prop} {ss : ISs} (h : Xs Γ hG ss σ Q) (k : ∀ fl σ, Q fl σ → Q' fl σ) : Xs Γ hG ss σ Q' := by
  obtain ⟨a, b, c, d⟩ := h; exact ⟨a, b, c, k _ _ d⟩
theorem Xs.for {β : Type} {w : β → PyData} {bs : List β} {t : Tgt} {it : IT} {p : Pos} (hit : evit Γ hG it σ = some (bs.map w)) (I : List β → Loc → Prop) (h0 : I [] σ)
    (hs : ∀ pre x post, bs = pre ++ x :: post → ∀ σ, I pre σ → ∃ σ1, t.bind (w x) σ = some σ1 ∧ Xs Γ hG b σ1 fun fl σ' => fl = .next ∧ I (pre ++ [x]) σ')
    (k : ∀ σ', I bs σ' → Xs Γ hG r σ' Q) : Xs Γ hG (.cons (.for t it b p) r) σ Q := by
  obtain ⟨σ', e, i⟩ := forL_pre (w := w) (f := fun v σ => match t.bind v σ with
      | none => none
      | some σ' => exs Γ hG b σ') I bs [] (fun pre x post q σ i => by
    obtain ⟨σ1, e1, fl, σ2, e2, rfl, i2⟩ := hs pre x post q σ i
    exact ⟨σ2, by simp only [e1, e2], i2⟩) σ h0
  refine Xs.step (σ' := σ') ?_ (k σ' i)
  simp only [ex_e0, ex_e1, ex_e2, ex_e3, ex_e4, ex_e5, ex_e6, ex_e7, ex_e8, ex_e9, ex_e10, ex_e11, ex_e12, ex_e13, ex_e14, ex_e15, ex_e16, ex_e17, hit]
  exact e
theorem Xs.whl {t : IE} {N : Nat} {p : Pos} (I : Nat → Loc → Prop) (h : ∀ n σ, I n σ → ((view t σ (ev Γ hG t σ)).bind truth = some false ∧ Xs Γ hG r σ Q) ∨ ((view t σ (ev Γ hG t σ)).bind truth = some true ∧ ∃ m, n = m + 1 ∧ Xs Γ hG b σ fun fl σ' => fl = .next ∧ I m σ')) (h0 : I N σ) : Xs Γ hG (.cons (.whl (N + 1) t b p) r) σ Q := by
  have : ∀ n σ, I n σ → ∃ σ', whileL (fun σ => (view t σ (ev Γ hG t σ)).bind truth) (fun σ => exs Γ hG b σ) (n + 1) σ = some (.next, σ') ∧ Xs Γ hG r σ' Q := by
    intro n
    induction n with
    | zero =>
      intro σ i
      rcases h _ _ i with ⟨c, k⟩ | ⟨c, m, e, k⟩
      · exact ⟨σ, by simp only [whileL, c], k⟩
      · cases e
    | succ n ih =>
      intro σ i
      rcases h _ _ i with ⟨c, k⟩ | ⟨c, m, e, fl, σ', e2, rfl, i2⟩
      · exact ⟨σ, by unfold whileL; simp only [c], k⟩
      · cases e
        obtain ⟨σ'', e3, k⟩ := ih σ' i2
        exact ⟨σ'', by unfold whileL; simp only [c, e2]; exact e3, k⟩
  obtain ⟨σ', e, k⟩ := this N σ h0
  exact Xs.step (by simp only [ex_e0, ex_e1, ex_e2, ex_e3, ex_e4, ex_e5, ex_e6, ex_e7, ex_e8, ex_e9, ex_e10, ex_e11, ex_e12, ex_e13, ex_e14, ex_e15, ex_e16, ex_e17]; exact e) k
theorem Xs.runF {body : ISs} {pn : List (Str × Nat)} {N : Nat} {ds : List PyData} {d : PyData} (hl : ds.length = pn.length) (h : Xs Γ hG body (putMany pn ds (List.replicate N none)) fun fl _ => fl = .ret d) : Mine.runF Γ hG body pn N ds = some d := by
  obtain ⟨fl, σ', e, rfl⟩ := h
  unfold Mine.runF
  rw [if_pos hl, e]
theorem gather_filter {β : Type} {w g : β → PyData} {F : PyData → Option (List PyData)} {p : β → Bool} : ∀ {bs : List β}, (∀ b ∈ bs, F (w b) = some (if p b then [g b] else [])) → gather F (bs.map w) = some ((bs.filter p).map g)
  | [], _ => rfl
  | b :: r, h => by
    simp only [List.map_cons, gather, h b (List.mem_cons_self ..), gather_filter fun x hx => h x (List.mem_cons_of_mem _ hx), List.filter_cons]
    cases p b <;> rfl
theorem ev_comp {β : Type} {w g : β → PyData} {bs : List β} {elt : IE} {t : Tgt} {it : IT} {ifs : IEs} {sc : Scope} {sm : List (Str × Nat)} {q : Pos} (p : β → Bool) (hit : evit Γ hG it σ = some (bs.map w))
    (h : ∀ b ∈ bs, ∃ σ1, t.bind (w b) (clr t.names σ) = some σ1 ∧ evIfs Γ hG ifs σ1 = some (p b) ∧ (p b = true → ev Γ hG elt σ1 = some (g b))) : ev Γ hG (.comp elt t it ifs sc sm q) σ = some (.list ((bs.filter p).map g)) := by
  simp only [ev_e0, ev_e1, ev_e2, ev_e3, ev_e4, ev_e5, ev_e6, ev_e7, ev_e8, ev_e9, ev_e10, ev_e11, ev_e12, ev_e13, ev_e14, ev_e15, ev_e16, ev_e17, ev_e18, ev_e19, ev_e20, ev_e21, ev_e22, ev_e24, hit]
  rw [gather_filter (p := p) (g := g) fun b hb => ?_]; rfl
  obtain ⟨σ1, e1, e2, e3⟩ := h b hb
  simp only [e1, e2]
  cases q : p b with
  | false => rfl
  | true => rw [e3 q]; rfl
noncomputable def IE.plain : IE → Bool
  | .var .. | .hlist .. => false
  | _ => true
theorem vw {e : IE} {d : PyData} (hp : e.plain = true) (h : ev Γ hG e σ = some d) : view e σ (ev Γ hG e σ) = some d := by
  cases e <;> first | exact h | cases hp
theorem ev_cmp {op : CmpOp} {x y : IE} {q : Pos} {d e : PyData} {c : Bool} (h1 : view x σ (ev Γ hG x σ) = some d) (h2 : view y σ (ev Γ hG y σ) = some e) (h : cmpop op d e = some c) : ev Γ hG (.cmp op x y q) σ = some (.bool c) := by
  simp only [ev_e0, ev_e1, ev_e2, ev_e3, ev_e4, ev_e5, ev_e6, ev_e7, ev_e8, ev_e9, ev_e10, ev_e11, ev_e12, ev_e13, ev_e14, ev_e15, ev_e16, ev_e17, ev_e18, ev_e19, ev_e20, ev_e21, ev_e22, ev_e24, h1, h2, h]; rfl
theorem ev_bin {op : Operator} {x y : IE} {q : Pos} {d e c : PyData} (h1 : view x σ (ev Γ hG x σ) = some d) (h2 : view y σ (ev Γ hG y σ) = some e) (h : binop op d e = some c) : ev Γ hG (.bin op x y q) σ = some c := by
  simp only [ev_e0, ev_e1, ev_e2, ev_e3, ev_e4, ev_e5, ev_e6, ev_e7, ev_e8, ev_e9, ev_e10, ev_e11, ev_e12, ev_e13, ev_e14, ev_e15, ev_e16, ev_e17, ev_e18, ev_e19, ev_e20, ev_e21, ev_e22, ev_e24, h1, h2, h]
theorem ev_call1 {f : BI} {x : IE} {px q : Pos} {d c : PyData} (h1 : view x σ (ev Γ hG x σ) = some d) (h : callB f [d] = some c) : ev Γ hG (.callB f px (.cons x .nil) q) σ = some c := by
  simp only [ev_e0, ev_e1, ev_e2, ev_e3, ev_e4, ev_e5, ev_e6, ev_e7, ev_e8, ev_e9, ev_e10, ev_e11, ev_e12, ev_e13, ev_e14, ev_e15, ev_e16, ev_e17, ev_e18, ev_e19, ev_e20, ev_e21, ev_e22, ev_e24, evsV_e0, evsV_e1, h1, h]
theorem ev_callF {f : Nat} {n : Str} {es : IEs} {px q : Pos} {ds : List PyData} {c : PyData} (h1 : evs Γ hG es σ = some ds) (h : Γ f ds = some c) : ev Γ hG (.callF f n px es q) σ = some c := by
  simp only [ev_e0, ev_e1, ev_e2, ev_e3, ev_e4, ev_e5, ev_e6, ev_e7, ev_e8, ev_e9, ev_e10, ev_e11, ev_e12, ev_e13, ev_e14, ev_e15, ev_e16, ev_e17, ev_e18, ev_e19, ev_e20, ev_e21, ev_e22, ev_e24, h1, h]
theorem evIfs_one {x : IE} {c : Bool} (h1 : view x σ (ev Γ hG x σ) = some (.bool c)) : evIfs Γ hG (.cons x .nil) σ = some c := by
  cases c <;> simp only [evIfs_e0, evIfs_e1, h1, truth]
theorem Xs.iteB {t : IE} {p : Pos} {c : Bool} (h : view t σ (ev Γ hG t σ) = some (.bool c)) (k1 : c = true → Xs Γ hG b σ fun fl σ' => match fl with | .next => Xs Γ hG r σ' Q | .ret d => Q (.ret d) σ') (k2 : c = false → Xs Γ hG o σ fun fl σ' => match fl with | .next => Xs Γ hG r σ' Q | .ret d => Q (.ret d) σ') : Xs Γ hG (.cons (.ite t b o p) r) σ Q := by
  refine Xs.ite (c := c) (by rw [h]; rfl) ?_
  cases c with
  | true => exact k1 rfl
  | false => exact k2 rfl
end
theorem eqv_str (a b : Str) : PyData.eqv (.str a) (.str b) = (a == b) := by simp only [PyData.eqv]
theorem shaped_str {a : Str} (h : PyData.strOk a = true) : SeqAt.shaped (.str a) = true := by
  simp only [SeqAt.shaped, PyData.canLay0, h, PyData.depth, Bool.true_and]; rfl
theorem shaped_list {l : List PyData} (h : ∀ x ∈ l, x.canLay0 = true ∧ x.depth ≤ 60) : SeqAt.shaped (.list l) = true := by
  have a : PyData.canLayAll0 l = true := by
    induction l with
    | nil => simp only [PyData.canLayAll0]
    | cons x r ih => simp only [PyData.canLayAll0, (h x (List.mem_cons_self ..)).1, ih fun y hy => h y (List.mem_cons_of_mem _ hy), Bool.and_self]
  have b : PyData.depthAll l ≤ 60 := by
    induction l with
    | nil => simp only [PyData.depthAll]; decide
    | cons x r ih =>
      simp only [PyData.canLayAll0, Bool.and_eq_true] at a
      have := ih (fun y hy => h y (List.mem_cons_of_mem _ hy)) a.2
      have := (h x (List.mem_cons_self ..)).2
      simp only [PyData.depthAll]; omega
  simp only [SeqAt.shaped, PyData.canLay0, a, PyData.depth, Bool.true_and]
  exact decide_eq_true (by omega)
theorem shaped_strs {β : Type} {f : β → Str} {l : List β} (h : ∀ x ∈ l, PyData.strOk (f x) = true) : SeqAt.shaped (.list (l.map fun x => .str (f x))) = true := by
  refine shaped_list fun y hy => ?_
  obtain ⟨x, hx, rfl⟩ := List.mem_map.mp hy
  exact ⟨by simp only [PyData.canLay0, h x hx], by simp [PyData.depth]⟩
theorem any_strs {f : Nat → Str} {l : List Nat} {n : Nat} (inj : ∀ m ∈ l, f m = f n → m = n) : ((l.map fun x => PyData.str (f x)).any fun y => PyData.eqv y (.str (f n))) = l.contains n := by
  induction l with
  | nil => rfl
  | cons m r ih =>
    simp only [List.map_cons, List.any_cons, eqv_str, List.contains_cons, ih fun x hx => inj x (List.mem_cons_of_mem _ hx)]
    congr 1
    rw [Bool.eq_iff_iff, beq_iff_eq, beq_iff_eq]
    exact ⟨fun q => (inj m (List.mem_cons_self ..) q).symm, fun q => by rw [q]⟩
theorem notIn_strs {f : Nat → Str} {l : List Nat} {n : Nat} (h : ∀ x ∈ l, PyData.strOk (f x) = true) (hn : PyData.strOk (f n) = true) (inj : ∀ m ∈ l, f m = f n → m = n) : cmpop .NotIn (.str (f n)) (.list (l.map fun x => .str (f x))) = some (!l.contains n) := by
  show Option.map (!·) (if (SeqAt.shaped (.str (f n)) && SeqAt.shaped (.list (l.map fun x => .str (f x)))) = true then some ((l.map fun x => PyData.str (f x)).any fun y => PyData.eqv y (.str (f n))) else none) = _
  rw [shaped_str hn, shaped_strs h, any_strs inj]; rfl
theorem eq_strs {a b : Str} (ha : PyData.strOk a = true) (hb : PyData.strOk b = true) : cmpop .Eq (.str a) (.str b) = some (a == b) := by
  show (if (SeqAt.shaped (.str a) && SeqAt.shaped (.str b)) = true then some (PyData.eqv (.str a) (.str b)) else none) = _
  rw [shaped_str ha, shaped_str hb, eqv_str]; rfl
theorem eqv_nil (l : List PyData) : PyData.eqv (.list l) (.list []) = l.isEmpty := by
  cases l <;> simp [PyData.eqv, PyData.eqvAll]
theorem eqvAll_refl {l : List PyData} (h : ∀ x ∈ l, PyData.eqv x x = true) : PyData.eqvAll l l = true := by
  induction l with
  | nil => simp only [PyData.eqvAll]
  | cons x r ih => simp only [PyData.eqvAll, h x (List.mem_cons_self ..), ih fun y hy => h y (List.mem_cons_of_mem _ hy), Bool.and_self]
end Mine
end
section
open PySem PySem.W PySem.Calls PyProof.Rows
set_option Elab.async false
set_option maxRecDepth 100000
namespace Mine
noncomputable def inN (n : Nat) : PyData := .int (n : Int)
theorem cmp_int (a b : Int) : cmpop .Eq (.int a) (.int b) = some (a == b) := by
  show (if (SeqAt.shaped (.int a) && SeqAt.shaped (.int b)) = true then some (PyData.eqv (.int a) (.int b)) else none) = _
  have : ∀ a, SeqAt.shaped (.int a) = true := fun a => by simp only [SeqAt.shaped, PyData.canLay0, PyData.depth, Bool.true_and]; rfl
  rw [this, this]; simp only [PyData.eqv]; rfl
theorem items_map {β : Type} {l : List β} {f : β → PyData} (h : l.length ≤ 64) : itemsOf (.list (l.map f)) = some (l.map f) := by
  have : (l.map f).length ≤ bigN := by rw [List.length_map]; exact Nat.le_trans h (by decide)
  simp only [itemsOf, if_pos this]
theorem len_map {β : Type} {l : List β} {f : β → PyData} (h : l.length ≤ 64) : callB .len [.list (l.map f)] = some (.int (l.length : Int)) := by
  show (if (l.map f).length ≤ bigN then some (PyData.int ((l.map f).length : Int)) else none) = _
  rw [List.length_map, if_pos (Nat.le_trans h (by decide))]
section
variable {Γ : Nat → List PyData → Option PyData} {hG : Hs} {σ : Loc}
theorem range_pick {α : Type} (xs : List α) (a : Nat) : ∀ n, (List.range n).filterMap (fun k => xs[a + k]?) = (xs.drop a).take n
  | 0 => by simp
  | n + 1 => by
    rw [List.range_succ, List.filterMap_append, range_pick xs a n, List.take_add_one, List.getElem?_drop]
    congr 1
theorem pick_nat {α : Type} (xs : List α) (a b : Nat) : (sliceRange (a : Int) (b : Int) 1).filterMap (fun i => xs[i]?) = (xs.drop a).take (b - a) := by
  have hc : sliceRange (a : Int) (b : Int) 1 = (List.range (b - a)).map fun k => a + k := by
    unfold sliceRange
    have : (if (1 : Int) > 0 then (if (a : Int) < b then ((b : Int) - a + 1 - 1) / 1 else 0) else (if (a : Int) > b then ((a : Int) - b - 1 - 1) / (-1) else 0)).toNat = b - a := by
      rw [if_pos (by decide)]
      split <;> omega
    show List.map _ (List.range (Int.toNat _)) = _
    rw [this]
    apply List.map_congr_left
    intro k _
    show ((a : Int) + 1 * (k : Int)).toNat = a + k
    omega
  rw [hc, List.filterMap_map]
  exact range_pick xs a (b - a)
theorem pick_list {α : Type} (xs : List α) (lo hi : Option Int) : pickL xs lo hi none = (xs.drop (kms_lo lo xs.length)).take (kms_hi hi xs.length - kms_lo lo xs.length) := by
  unfold pickL
  rw [kms_bounds]
  exact pick_nat xs _ _
theorem slice_take {α : Type} {l : List α} {f : α → PyData} (n : Nat) (h : l.length ≤ 64) : slice (.list (l.map f)) none (some (n : Int)) none = some (.list ((l.take n).map f)) := by
  have h' : l.length ≤ bigN := Nat.le_trans h (by decide)
  simp only [slice, List.length_map, h', decide_true, Bool.true_and]
  rw [if_pos (by decide), pick_list, List.map_take]
  simp only [kms_lo, kms_hi, List.drop_zero, List.length_map, Nat.sub_zero]
  rw [if_neg (by omega)]
  simp only [Int.toNat_natCast]
  congr 2
  rw [List.take_eq_take_iff, List.length_map]; omega
theorem slice_drop {α : Type} {l : List α} {f : α → PyData} (n : Nat) (h : l.length ≤ 64) : slice (.list (l.map f)) (some (n : Int)) none none = some (.list ((l.drop n).map f)) := by
  have h' : l.length ≤ bigN := Nat.le_trans h (by decide)
  simp only [slice, List.length_map, h', decide_true, Bool.true_and]
  rw [if_pos (by decide), pick_list, List.map_drop]
  simp only [kms_lo, kms_hi, List.length_map]
  rw [if_neg (by omega)]
  simp only [Int.toNat_natCast]
  congr 2
  by_cases q : n ≤ l.length
  · rw [Nat.min_eq_left q, List.take_of_length_le (by simp)]
  · rw [Nat.min_eq_right (by omega), List.drop_of_length_le (by simp), List.drop_of_length_le (by simp; omega)]; simp
theorem ev_sub {x y : IE} {q : Pos} {d e c : PyData} (h1 : view x σ (ev Γ hG x σ) = some d) (h2 : ev Γ hG y σ = some e) (h : getitem d e = some c) : ev Γ hG (.sub x y q) σ = some c := by
  simp only [ev_e0, ev_e1, ev_e2, ev_e3, ev_e4, ev_e5, ev_e6, ev_e7, ev_e8, ev_e9, ev_e10, ev_e11, ev_e12, ev_e13, ev_e14, ev_e15, ev_e16, ev_e17, ev_e18, ev_e19, ev_e20, ev_e21, ev_e22, ev_e24, h1, h2, h]
theorem evs_cons {x : IE} {es : IEs} {d : PyData} {ds : List PyData} (h1 : ev Γ hG x σ = some d) (h2 : evs Γ hG es σ = some ds) : evs Γ hG (.cons x es) σ = some (d :: ds) := by
  simp only [evs_e0, evs_e1, h1, h2]
theorem get_map {α : Type} {l : List α} {f : α → PyData} {k : Nat} {a : α} (h : l.length ≤ 64) (e : l[k]? = some a) : getitem (.list (l.map f)) (.int (k : Int)) = some (f a) := by
  have hk : k < l.length := (List.getElem?_eq_some_iff.mp e).1
  have hs : smallI (k : Int) = true := by
    unfold smallI
    simp only [Bool.and_eq_true, decide_eq_true_eq]
    constructor <;> omega
  simp only [getitem, hs, if_true]
  have : seqIndex? (k : Int) (l.map f).length = some k := by
    unfold seqIndex?
    simp only [List.length_map]
    have e : (if (k : Int) < 0 then (k : Int) + (l.length : Int) else (k : Int)) = k := if_neg (by omega)
    rw [e, if_pos (by simp; omega)]; simp
  rw [this]
  simp [e]
theorem lt_int (a b : Nat) : cmpop .Lt (.int (a : Int)) (.int (b : Int)) = some (decide (a < b)) := by
  show some (decide ((a : Int) < (b : Int))) = _
  congr 1; simp
theorem cat_map {α : Type} {l r : List α} {f : α → PyData} (h : l.length + r.length ≤ 64) : binop .Add (.list (l.map f)) (.list (r.map f)) = some (.list ((l ++ r).map f)) := by
  show (if (l.map f).length + (r.map f).length ≤ bigN then some (PyData.list (l.map f ++ r.map f)) else none) = _
  rw [List.length_map, List.length_map, if_pos (Nat.le_trans h (by decide)), List.map_append]
theorem eq_nil {l : List PyData} (h : SeqAt.shaped (.list l) = true) : cmpop .Eq (.list l) (.list []) = some l.isEmpty := by
  show (if (SeqAt.shaped (.list l) && SeqAt.shaped (.list [])) = true then some (PyData.eqv (.list l) (.list [])) else none) = _
  rw [h, eqv_nil, shaped_list (fun x h => by cases h)]; rfl
theorem ne_nil {l : List PyData} (h : SeqAt.shaped (.list l) = true) : cmpop .NotEq (.list l) (.list []) = some (!l.isEmpty) := by
  show (if (SeqAt.shaped (.list l) && SeqAt.shaped (.list [])) = true then some (!PyData.eqv (.list l) (.list [])) else none) = _
  rw [h, eqv_nil, shaped_list (fun x h => by cases h)]; rfl
theorem len_split {α : Type} (p : α → Bool) : ∀ l : List α, l.length = (l.filter p).length + (l.filter fun b => !p b).length
  | [] => rfl
  | a :: r => by
    have := len_split p r
    simp only [List.filter_cons, List.length_cons]
    cases p a <;> simp <;> omega
end
section
variable {Γ : Nat → List PyData → Option PyData} {hG : Hs} {σ : Loc} {r b : ISs} {Q : Fl → Loc → Prop}
theorem Xs.hcall {m x : Str} {i : Nat} {px ap pc p : Pos} {es : IEs} {ad : Option Nat} {kvs xs kvs' : List PyData} {d : PyData} (h0 : σ.at i = some (.hd hG.cls ad kvs)) (h : evs Γ hG es σ = some xs) (hs : hG.set m kvs xs = some (kvs', d)) (k : Xs Γ hG r (σ.put i (.hd hG.cls ad kvs')) Q) : Xs Γ hG (.cons (.hcall m x i px ap es pc p) r) σ Q :=
  Xs.step (by simp only [ex_e0, ex_e1, ex_e2, ex_e3, ex_e4, ex_e5, ex_e6, ex_e7, ex_e8, ex_e9, ex_e10, ex_e11, ex_e12, ex_e13, ex_e14, ex_e15, ex_e16, ex_e17, h0, h, hs, beq_self_eq_true, if_true]) k
theorem ev_hmeth {m x : Str} {i : Nat} {px ap p : Pos} {es : IEs} {kvs xs : List PyData} {d : PyData} (h0 : σ.hdr i hG.cls = some kvs) (h : evs Γ hG es σ = some xs) (hs : hG.get m kvs xs = some d) : ev Γ hG (.hmeth m x i px ap es p) σ = some d := by
  simp only [ev_e0, ev_e1, ev_e2, ev_e3, ev_e4, ev_e5, ev_e6, ev_e7, ev_e8, ev_e9, ev_e10, ev_e11, ev_e12, ev_e13, ev_e14, ev_e15, ev_e16, ev_e17, ev_e18, ev_e19, ev_e20, ev_e21, ev_e22, ev_e24, h0, h, hs]
theorem ev_conv {x : Str} {i kc : Nat} {px ap pc pk p : Pos} {nm : Bool} {e : IE} {kvs : List PyData} {z : Str} (h0 : σ.hdr i hG.cls = some kvs) (h : ev Γ hG e σ = some (.str z)) (hs : cleanS z = true) : ev Γ hG (.conv x i px ap e nm kc pc pk p) σ = some (.str z) := by
  simp only [ev_e0, ev_e1, ev_e2, ev_e3, ev_e4, ev_e5, ev_e6, ev_e7, ev_e8, ev_e9, ev_e10, ev_e11, ev_e12, ev_e13, ev_e14, ev_e15, ev_e16, ev_e17, ev_e18, ev_e19, ev_e20, ev_e21, ev_e22, ev_e24, h0, h, hs, if_true]
theorem ev_meth0 {m : ME} {e : IE} {ap p : Pos} {x c : PyData} (h0 : ev Γ hG e σ = some x) (h : meth m x [] = some c) : ev Γ hG (.meth m e ap .nil p) σ = some c := by
  simp only [ev_e0, ev_e1, ev_e2, ev_e3, ev_e4, ev_e5, ev_e6, ev_e7, ev_e8, ev_e9, ev_e10, ev_e11, ev_e12, ev_e13, ev_e14, ev_e15, ev_e16, ev_e17, ev_e18, ev_e19, ev_e20, ev_e21, ev_e22, ev_e24, evsV_e0, evsV_e1, h0, h]
theorem evit_e {e : IE} {d : PyData} {xs : List PyData} (h : ev Γ hG e σ = some d) (h2 : itemsOf d = some xs) : evit Γ hG (.e e) σ = some xs := by
  simp only [evit_e0, evit_e1, evit_e2, h, h2]
theorem runList_asg {x : Str} {i : Nat} {px p : Pos} {e cmp : IE} {pn : List (Str × Nat)} {N : Nat} {kvs ds xs : List PyData} {d : PyData} (hl : ds.length + 1 = pn.length) (h : ev Γ hG e (putL pn (.hr hG.cls kvs :: ds.map .d) (List.replicate N none)) = some d)
    (h2 : ev Γ hG cmp ((putL pn (.hr hG.cls kvs :: ds.map .d) (List.replicate N none)).put i (.d d)) = some (.list xs)) (h3 : xs.all flatD = true) : runList Γ hG (some (.asg x i px e p)) cmp pn N kvs ds = some (.list xs) := by
  unfold runList
  rw [if_pos hl]
  simp only [ex_e0, ex_e1, ex_e2, ex_e3, ex_e4, ex_e5, ex_e6, ex_e7, ex_e8, ex_e9, ex_e10, ex_e11, ex_e12, ex_e13, ex_e14, ex_e15, ex_e16, ex_e17, h, h2, h3, if_true]
end
section
variable {Γ : Nat → List PyData → Option PyData} {hG : Hs} {σ : Loc}
theorem ev_compA {β : Type} {w g : β → PyData} {bs : List β} {elt : IE} {t : Tgt} {it : IT} {sc : Scope} {sm : List (Str × Nat)} {q : Pos} (hit : evit Γ hG it σ = some (bs.map w))
    (h : ∀ b ∈ bs, ∃ σ1, t.bind (w b) (clr t.names σ) = some σ1 ∧ ev Γ hG elt σ1 = some (g b)) : ev Γ hG (.comp elt t it .nil sc sm q) σ = some (.list (bs.map g)) := by
  have := ev_comp (Γ := Γ) (hG := hG) (σ := σ) (w := w) (g := g) (bs := bs) (elt := elt) (t := t) (it := it) (ifs := .nil) (sc := sc) (sm := sm) (q := q) (fun _ => true) hit fun b hb => by
    obtain ⟨σ1, a, b⟩ := h b hb
    exact ⟨σ1, a, rfl, fun _ => b⟩
  rw [this]
  congr 2
  rw [List.filter_eq_self.mpr fun _ _ => rfl]
theorem shaped_int (a : Int) : SeqAt.shaped (.int a) = true := by simp only [SeqAt.shaped, PyData.canLay0, PyData.depth, Bool.true_and]; rfl
theorem notIn_data {f : Nat → PyData} {l : List Nat} {n : Nat} (h : ∀ x ∈ l, (f x).canLay0 = true ∧ (f x).depth ≤ 60) (hn : SeqAt.shaped (f n) = true) (inj : ∀ m ∈ l, PyData.eqv (f m) (f n) = (n == m)) : cmpop .NotIn (f n) (.list (l.map f)) = some (!l.contains n) := by
  have e : (l.map f).any (fun y => PyData.eqv y (f n)) = l.contains n := by
    clear h
    induction l with
    | nil => rfl
    | cons m r ih => simp only [List.map_cons, List.any_cons, List.contains_cons, ih fun x hx => inj x (List.mem_cons_of_mem _ hx), inj m (List.mem_cons_self ..)]
  have s : SeqAt.shaped (.list (l.map f)) = true := shaped_list fun y hy => by
    obtain ⟨x, hx, rfl⟩ := List.mem_map.mp hy; exact h x hx
  have q : cmpop .NotIn (f n) (.list (l.map f)) = Option.map (!·) (if (SeqAt.shaped (f n) && SeqAt.shaped (.list (l.map f))) = true then some ((l.map f).any fun y => PyData.eqv y (f n)) else none) := rfl
  rw [q, hn, s, e]; rfl
theorem gt_int (a b : Nat) : cmpop .Gt (.int (a : Int)) (.int (b : Int)) = some (decide (b < a)) := by
  show some (decide ((b : Int) < (a : Int))) = _
  congr 1; simp
theorem evB_or {x y : IE} {p : Pos} {c : Bool} (h1 : ev Γ hG x σ = some (.bool false)) (h2 : ev Γ hG y σ = some (.bool c)) : ev Γ hG (.boolop .Or (.cons x (.cons y .nil)) p) σ = some (.bool c) := by
  simp only [ev_e0, ev_e1, ev_e2, ev_e3, ev_e4, ev_e5, ev_e6, ev_e7, ev_e8, ev_e9, ev_e10, ev_e11, ev_e12, ev_e13, ev_e14, ev_e15, ev_e16, ev_e17, ev_e18, ev_e19, ev_e20, ev_e21, ev_e22, ev_e24, evB_e0, evB_e1, h1, h2, truth]
theorem evB_and {x y : IE} {p : Pos} {c : Bool} (h1 : ev Γ hG x σ = some (.bool true)) (h2 : ev Γ hG y σ = some (.bool c)) : ev Γ hG (.boolop .And (.cons x (.cons y .nil)) p) σ = some (.bool c) := by
  simp only [ev_e0, ev_e1, ev_e2, ev_e3, ev_e4, ev_e5, ev_e6, ev_e7, ev_e8, ev_e9, ev_e10, ev_e11, ev_e12, ev_e13, ev_e14, ev_e15, ev_e16, ev_e17, ev_e18, ev_e19, ev_e20, ev_e21, ev_e22, ev_e24, evB_e0, evB_e1, h1, h2, truth]
theorem ev_notB {x : IE} {p : Pos} {c : Bool} (h1 : view x σ (ev Γ hG x σ) = some (.bool c)) : ev Γ hG (.not x p) σ = some (.bool !c) := by
  simp only [ev_e0, ev_e1, ev_e2, ev_e3, ev_e4, ev_e5, ev_e6, ev_e7, ev_e8, ev_e9, ev_e10, ev_e11, ev_e12, ev_e13, ev_e14, ev_e15, ev_e16, ev_e17, ev_e18, ev_e19, ev_e20, ev_e21, ev_e22, ev_e24, h1, truth]; rfl
theorem eq_bool (a b : Bool) : cmpop .Eq (.bool a) (.bool b) = some (a == b) := by cases a <;> cases b <;> rfl
theorem add_int (a b : Nat) : binop .Add (.int (a : Int)) (.int (b : Int)) = some (.int ((a + b : Nat) : Int)) := rfl
end
theorem evit_range {Γ : Nat → List PyData → Option PyData} {hG : Hs} {σ : Loc} {px p : Pos} {es : IEs} {xs l : List PyData} (h : evs Γ hG es σ = some xs) (h2 : rangeItems xs = some l) : evit Γ hG (.range px es p) σ = some l := by
  simp only [evit_e0, evit_e1, evit_e2, h, h2]
end Mine
end
section
open PySem PySem.W PySem.Calls PyProof.Rows
set_option Elab.async false
set_option maxRecDepth 100000
namespace Mine
noncomputable def St (l : List Nat) : PyData := .str ⟨l.toArray⟩
noncomputable def okC (l : List Nat) : Prop := ∀ c ∈ l, c < 128
theorem strOk_of {l : List Nat} (h : okC l) : PyData.strOk ⟨l.toArray⟩ = true := by
  unfold PyData.strOk
  rw [List.all_toArray, List.all_eq_true]
  exact fun c hc => decide_eq_true (Nat.lt_trans (h c hc) (by decide))
theorem eq_St {a b : List Nat} (ha : okC a) (hb : okC b) : cmpop .Eq (St a) (St b) = some (a == b) := by
  unfold St
  rw [eq_strs (strOk_of ha) (strOk_of hb)]
  congr 1
  rw [Bool.eq_iff_iff, beq_iff_eq, beq_iff_eq]
  exact ⟨fun h => by simpa using h, fun h => by rw [h]⟩
theorem len_St {a : List Nat} (h : a.length ≤ 64) : callB .len [St a] = some (inN a.length) := by
  have : Str.length ⟨a.toArray⟩ ≤ bigN := Nat.le_trans (show a.toArray.size ≤ 64 by simpa using h) (by decide)
  show (if Str.length ⟨a.toArray⟩ ≤ bigN then some (PyData.int (Str.length ⟨a.toArray⟩ : Int)) else none) = _
  rw [if_pos this]; rfl
theorem truth_St {a : List Nat} (h : a.length ≤ 64) : truth (St a) = some (!a.isEmpty) := by
  have : Str.length ⟨a.toArray⟩ ≤ bigN := Nat.le_trans (show a.toArray.size ≤ 64 by simpa using h) (by decide)
  simp only [St, truth, if_pos this]
  congr 1
  show (a.toArray.size != 0) = _
  cases a <;> simp
theorem slice_St {l : List Nat} {lo hi : Option Int} (a b : Nat) (hl : l.length ≤ 64) (ha : (match lo with | none => 0 | some i => max 0 (min (if i < 0 then i + (l.length : Int) else i) (l.length : Int))) = (a : Int)) (hb : (match hi with | none => (l.length : Int) | some i => max 0 (min (if i < 0 then i + (l.length : Int) else i) (l.length : Int))) = (b : Int)) (hab : b ≤ l.length) :
    slice (St l) lo hi none = some (St ((l.drop a).take (b - a))) := by
  have hsz : Str.length ⟨l.toArray⟩ = l.length := by show l.toArray.size = _; simp
  have hle : Str.length ⟨l.toArray⟩ ≤ bigN := by rw [hsz]; exact Nat.le_trans hl (by decide)
  simp only [St, slice, if_pos hle]
  have hi' : Builtin.Str.strSliceIndices lo hi 1 (Str.length ⟨l.toArray⟩) = sliceRange (a : Int) (b : Int) 1 := by
    rw [hsz, ← ha, ← hb]
    unfold Builtin.Str.strSliceIndices
    cases lo <;> cases hi <;> rfl
  have hp : (Builtin.Str.strSliceIndices lo hi 1 (Str.length ⟨l.toArray⟩)).filterMap ((⟨l.toArray⟩ : Str).cps[·]?) = (l.drop a).take (b - a) := by
    rw [hi', ← pick_nat l a b]
    congr 1; funext i; simp
  unfold Txt.slice
  split
  · rename_i h
    simp only [beq_self_eq_true, Bool.true_and, beq_iff_eq] at h
    have hn : ∀ a b : Nat, (sliceRange (a : Int) (b : Int) 1).length = b - a := fun a b => by
      unfold sliceRange
      have : (if (1 : Int) > 0 then (if (a : Int) < b then ((b : Int) - a + 1 - 1) / 1 else 0) else (if (a : Int) > b then ((a : Int) - b - 1 - 1) / (-1) else 0)).toNat = b - a := by
        rw [if_pos (by decide)]
        split <;> omega
      show (List.map _ (List.range (Int.toNat _))).length = _
      rw [this, List.length_map, List.length_range]
    rw [hi', hn, hsz] at h
    by_cases q : l.length = 0
    · have : l = [] := List.length_eq_zero_iff.mp q
      subst this; simp
    · have : a = 0 := by omega
      subst this
      rw [List.drop_zero, List.take_of_length_le (by omega)]
  · rw [hp]
theorem from_St {l : List Nat} {p : Nat} (hl : l.length ≤ 64) : slice (St l) (some (p : Int)) none none = some (St (l.drop p)) := by
  rw [slice_St (min p l.length) l.length hl (by simp only []; rw [if_neg (by omega)]; omega) rfl (Nat.le_refl _)]
  congr 2
  by_cases q : p ≤ l.length
  · rw [Nat.min_eq_left q, List.take_of_length_le (by simp)]
  · rw [Nat.min_eq_right (by omega), List.drop_of_length_le (Nat.le_refl _), List.drop_of_length_le (by omega)]; simp
theorem upto_St {l : List Nat} {q : Nat} (hl : l.length ≤ 64) (hq : 0 < q) : slice (St l) none (some (-(q : Int))) none = some (St (l.take (l.length - q))) := by
  rw [slice_St 0 (l.length - q) hl rfl (by simp only []; rw [if_pos (by omega)]; omega) (by omega)]
  rfl
theorem whole_St {l : List Nat} (hl : l.length ≤ 64) : slice (St l) none none none = some (St l) := by
  rw [slice_St 0 l.length hl rfl rfl (Nat.le_refl _)]
  simp
theorem get_St {l : List Nat} {k : Nat} {c : Nat} (hl : l.length ≤ 64) (e : l[k]? = some c) : getitem (St l) (inN k) = some (St [c]) := by
  have hk : k < l.length := (List.getElem?_eq_some_iff.mp e).1
  have hs : smallI (k : Int) = true := by
    unfold smallI
    simp only [Bool.and_eq_true, decide_eq_true_eq]
    constructor <;> omega
  simp only [St, inN, getitem, hs, if_true]
  have hsz : Str.length ⟨l.toArray⟩ = l.length := by show l.toArray.size = _; simp
  have : seqIndex? (k : Int) l.length = some k := by
    unfold seqIndex?
    have e : (if (k : Int) < 0 then (k : Int) + (l.length : Int) else (k : Int)) = k := if_neg (by omega)
    rw [e, if_pos (by simp; omega)]; simp
  rw [hsz, this]
  simp [e, chr1]
theorem getN_St {l : List Nat} {k : Nat} {c : Nat} (hl : l.length ≤ 64) (hk : k < l.length) (e : l[l.length - 1 - k]? = some c) : getitem (St l) (.int (-(k : Int) - 1)) = some (St [c]) := by
  have hs : smallI (-(k : Int) - 1) = true := by
    unfold smallI
    simp only [Bool.and_eq_true, decide_eq_true_eq]
    constructor <;> omega
  simp only [St, getitem, hs, if_true]
  have hsz : Str.length ⟨l.toArray⟩ = l.length := by show l.toArray.size = _; simp
  have : seqIndex? (-(k : Int) - 1) l.length = some (l.length - 1 - k) := by
    unfold seqIndex?
    have e : (if (-(k : Int) - 1) < 0 then (-(k : Int) - 1) + (l.length : Int) else (-(k : Int) - 1)) = ((l.length - 1 - k : Nat) : Int) := by rw [if_pos (by omega)]; omega
    rw [e, if_pos (by simp; omega)]; simp
  rw [hsz, this]
  simp [e, chr1]
noncomputable def cpN : List Nat → List Nat → Nat
  | a :: r, b :: t => if a == b then cpN r t + 1 else 0
  | _, _ => 0
theorem cp_le : ∀ a b : List Nat, cpN a b ≤ a.length ∧ cpN a b ≤ b.length
  | [], _ => by simp [cpN]
  | _ :: _, [] => by simp [cpN]
  | a :: r, b :: t => by
    have := cp_le r t
    unfold cpN; split <;> simp <;> omega
theorem cp_at : ∀ (a b : List Nat) (p : Nat), p < cpN a b → ∃ c, a[p]? = some c ∧ b[p]? = some c
  | [], _, p, h => by simp [cpN] at h
  | _ :: _, [], p, h => by simp [cpN] at h
  | a :: r, b :: t, p, h => by
    unfold cpN at h
    split at h
    · rename_i q
      cases p with
      | zero => exact ⟨a, rfl, by rw [eq_of_beq q]; rfl⟩
      | succ p => exact cp_at r t p (by omega)
    · cases h
theorem cp_end : ∀ (a b : List Nat) (c d : Nat), a[cpN a b]? = some c → b[cpN a b]? = some d → c ≠ d
  | [], _, c, d, h, _ => by simp at h
  | _ :: _, [], c, d, _, h => by simp at h
  | a :: r, b :: t, c, d, h, h2 => by
    unfold cpN at h h2
    split at h
    · rename_i q
      rw [if_pos q] at h2
      exact cp_end r t c d h h2
    · rename_i q
      rw [if_neg q] at h2
      simp only [List.getElem?_cons_zero, Option.some.injEq] at h h2
      subst h h2
      simpa using q
end Mine
end
section
open PySem PySem.W PySem.Calls PyProof.Rows
set_option Elab.async false
set_option maxRecDepth 100000
namespace Mine
section
variable {Γ : Nat → List PyData → Option PyData} {hG : Hs} {σ : Loc} {r b : ISs} {Q : Fl → Loc → Prop}
theorem and3 {x y z : IE} {p : Pos} {X Y : PyData} {tx ty c : Bool} (h1 : ev Γ hG x σ = some X) (t1 : truth X = some tx) (h2 : ev Γ hG y σ = some Y) (t2 : truth Y = some ty) (h3 : tx = true → ty = true → ev Γ hG z σ = some (.bool c)) :
    (view (.boolop .And (.cons x (.cons y (.cons z .nil))) p) σ (ev Γ hG (.boolop .And (.cons x (.cons y (.cons z .nil))) p) σ)).bind truth = some (tx && ty && c) := by
  simp only [view, ev_e0, ev_e1, ev_e2, ev_e3, ev_e4, ev_e5, ev_e6, ev_e7, ev_e8, ev_e9, ev_e10, ev_e11, ev_e12, ev_e13, ev_e14, ev_e15, ev_e16, ev_e17, ev_e18, ev_e19, ev_e20, ev_e21, ev_e22, ev_e24, evB_e0, evB_e1, h1, t1]
  cases tx with
  | false => simp only [Option.bind, t1]; rfl
  | true =>
    simp only [h2, t2]
    cases ty with
    | false => simp only [Option.bind, t2]; rfl
    | true => simp only [h3 rfl rfl, Option.bind, truth]; rfl
theorem or2 {x y : IE} {p : Pos} {X Y : PyData} {tx ty : Bool} (h1 : ev Γ hG x σ = some X) (t1 : truth X = some tx) (h2 : ev Γ hG y σ = some Y) (t2 : truth Y = some ty) :
    (view (.boolop .Or (.cons x (.cons y .nil)) p) σ (ev Γ hG (.boolop .Or (.cons x (.cons y .nil)) p) σ)).bind truth = some (tx || ty) := by
  simp only [view, ev_e0, ev_e1, ev_e2, ev_e3, ev_e4, ev_e5, ev_e6, ev_e7, ev_e8, ev_e9, ev_e10, ev_e11, ev_e12, ev_e13, ev_e14, ev_e15, ev_e16, ev_e17, ev_e18, ev_e19, ev_e20, ev_e21, ev_e22, ev_e24, evB_e0, evB_e1, h1, t1]
  cases tx with
  | true => simp only [Option.bind, t1]; rfl
  | false => simp only [h2, Option.bind, t2]; rfl
theorem Xs.forS {β : Type} {w : β → PyData} {bs : List β} {t : Tgt} {it : IT} {p : Pos} (hit : evit Γ hG it σ = some (bs.map w)) (I : List β → Loc → Prop) (h0 : I bs σ)
    (hs : ∀ x post σ, I (x :: post) σ → ∃ σ1, t.bind (w x) σ = some σ1 ∧ Xs Γ hG b σ1 fun fl σ' => match fl with | .next => I post σ' | .ret d => Q (.ret d) σ')
    (k : ∀ σ', I [] σ' → Xs Γ hG r σ' Q) : Xs Γ hG (.cons (.for t it b p) r) σ Q := by
  have : ∀ (bs : List β) (σ : Loc), I bs σ → (∃ σ', forL (fun v σ => match t.bind v σ with
      | none => none
      | some σ' => exs Γ hG b σ') (bs.map w) σ = some (.next, σ') ∧ I [] σ') ∨ ∃ d σ', forL (fun v σ => match t.bind v σ with
      | none => none
      | some σ' => exs Γ hG b σ') (bs.map w) σ = some (.ret d, σ') ∧ Q (.ret d) σ' := by
    intro bs
    induction bs with
    | nil => exact fun σ i => .inl ⟨σ, rfl, i⟩
    | cons x post ih =>
      intro σ i
      obtain ⟨σ1, e1, fl, σ2, e2, q⟩ := hs x post σ i
      cases fl with
      | next =>
        rcases ih σ2 q with ⟨σ', e, i'⟩ | ⟨d, σ', e, i'⟩
        · exact .inl ⟨σ', by simp only [List.map_cons, forL, e1, e2]; exact e, i'⟩
        · exact .inr ⟨d, σ', by simp only [List.map_cons, forL, e1, e2]; exact e, i'⟩
      | ret d => exact .inr ⟨d, σ2, by simp only [List.map_cons, forL, e1, e2], q⟩
  rcases this bs σ h0 with ⟨σ', e, i'⟩ | ⟨d, σ', e, q⟩
  · exact Xs.step (by simp only [ex_e0, ex_e1, ex_e2, ex_e3, ex_e4, ex_e5, ex_e6, ex_e7, ex_e8, ex_e9, ex_e10, ex_e11, ex_e12, ex_e13, ex_e14, ex_e15, ex_e16, ex_e17, hit]; exact e) (k σ' i')
  · exact Xs.last (by simp only [ex_e0, ex_e1, ex_e2, ex_e3, ex_e4, ex_e5, ex_e6, ex_e7, ex_e8, ex_e9, ex_e10, ex_e11, ex_e12, ex_e13, ex_e14, ex_e15, ex_e16, ex_e17, hit]; exact e) q
theorem Xs.asg2 {x y : Str} {i j : Nat} {px py p : Pos} {e : IE} {d : PyData} (h : ev Γ hG e σ = some d) (k : Xs Γ hG r ((σ.put i (.d d)).put j (.d d)) Q) : Xs Γ hG (.cons (.asg2 x i px y j py e p) r) σ Q := Xs.step (by simp only [ex_e0, ex_e1, ex_e2, ex_e3, ex_e4, ex_e5, ex_e6, ex_e7, ex_e8, ex_e9, ex_e10, ex_e11, ex_e12, ex_e13, ex_e14, ex_e15, ex_e16, ex_e17, h]) k
theorem Xs.aug {x : Str} {i : Nat} {px p : Pos} {op : Operator} {e : IE} {a d c : PyData} (h0 : σ.at i = some (.d a)) (h : ev Γ hG e σ = some d) (hc : inplace op a d = some c) (k : Xs Γ hG r (σ.put i (.d c)) Q) : Xs Γ hG (.cons (.aug x i px op e p) r) σ Q := Xs.step (by simp only [ex_e0, ex_e1, ex_e2, ex_e3, ex_e4, ex_e5, ex_e6, ex_e7, ex_e8, ex_e9, ex_e10, ex_e11, ex_e12, ex_e13, ex_e14, ex_e15, ex_e16, ex_e17, h0, h, hc]) k
theorem Xs.swp {x y : Str} {i j kt kv : Nat} {px py pt pv p : Pos} {e f : IE} {c d : PyData} (h1 : ev Γ hG e σ = some c) (h2 : ev Γ hG f σ = some d) (k : Xs Γ hG r ((σ.put j (.d d)).put i (.d c)) Q) : Xs Γ hG (.cons (.swp x i px y j py kt pt e f kv pv p) r) σ Q := Xs.step (by simp only [ex_e0, ex_e1, ex_e2, ex_e3, ex_e4, ex_e5, ex_e6, ex_e7, ex_e8, ex_e9, ex_e10, ex_e11, ex_e12, ex_e13, ex_e14, ex_e15, ex_e16, ex_e17, h1, h2]) k
theorem Xs.seti {x : Str} {i n : Nat} {px ps p : Pos} {e f : IE} {xs : List PyData} {d : PyData} (h0 : σ.at i = some (.ml xs)) (h : ev Γ hG e σ = some d) (h2 : ev Γ hG f σ = some (inN n)) (hn : n < xs.length) (hl : xs.length ≤ 64) (k : Xs Γ hG r (σ.put i (.ml (xs.set n d))) Q) : Xs Γ hG (.cons (.seti x i px f ps e p) r) σ Q := by
  refine Xs.step ?_ k
  have : (decide (0 ≤ (n : Int)) && decide ((n : Int) < (xs.length : Int)) && decide (xs.length ≤ bigN)) = true := by
    rw [decide_eq_true (show 0 ≤ (n : Int) by omega), decide_eq_true (show (n : Int) < (xs.length : Int) by omega), decide_eq_true (Nat.le_trans hl (by decide))]; rfl
  simp only [ex_e0, ex_e1, ex_e2, ex_e3, ex_e4, ex_e5, ex_e6, ex_e7, ex_e8, ex_e9, ex_e10, ex_e11, ex_e12, ex_e13, ex_e14, ex_e15, ex_e16, ex_e17, h0, h, h2, inN, this, if_true, Int.toNat_natCast]
theorem ev_slc {x : IE} {lo hi : OIE} {ps p : Pos} {d c : PyData} {l h : Option Int} (h1 : view x σ (ev Γ hG x σ) = some d) (h2 : evo Γ hG lo σ = some l) (h3 : evo Γ hG hi σ = some h) (h4 : slice d l h none = some c) : ev Γ hG (.slc x lo hi .none ps p) σ = some c := by
  simp only [ev_e0, ev_e1, ev_e2, ev_e3, ev_e4, ev_e5, ev_e6, ev_e7, ev_e8, ev_e9, ev_e10, ev_e11, ev_e12, ev_e13, ev_e14, ev_e15, ev_e16, ev_e17, ev_e18, ev_e19, ev_e20, ev_e21, ev_e22, ev_e24, h1, h2, h3, evo_e0, evo_e1, h4]
theorem min_int (a b : Nat) : callB .min [inN a, inN b] = some (inN (if b < a then b else a)) := by
  show some (PyData.int (if (b : Int) < (a : Int) then (b : Int) else (a : Int))) = some (PyData.int ((if b < a then b else a : Nat) : Int))
  congr 2
  split <;> split <;> omega
theorem ev_call2 {f : BI} {x y : IE} {px q : Pos} {d e c : PyData} (h1 : view x σ (ev Γ hG x σ) = some d) (h2 : view y σ (ev Γ hG y σ) = some e) (h : callB f [d, e] = some c) : ev Γ hG (.callB f px (.cons x (.cons y .nil)) q) σ = some c := by
  simp only [ev_e0, ev_e1, ev_e2, ev_e3, ev_e4, ev_e5, ev_e6, ev_e7, ev_e8, ev_e9, ev_e10, ev_e11, ev_e12, ev_e13, ev_e14, ev_e15, ev_e16, ev_e17, ev_e18, ev_e19, ev_e20, ev_e21, ev_e22, ev_e24, evsV_e0, evsV_e1, h1, h2, h]
end
noncomputable def scN (c d : Nat) : Nat := if c == d then 0 else if c ||| 32 == d ||| 32 then 1 else 2
noncomputable def innerN (bc : Nat) : List Nat → List Nat → Nat → Nat → Nat → List Nat × Nat × Nat
  | c :: as, d :: ds, D, R, M =>
    let s := D + scN bc c
    let i := (if d < R then d else R) + 2
    let r := if s < i then s else i
    let t := innerN bc as ds d r (if r < M then r else M)
    (r :: t.1, t.2)
  | _, _, _, R, M => ([], R, M)
noncomputable def outerN (a : List Nat) (mc : Nat) : List Nat → Nat → List Nat → Nat → Nat
  | [], _, _, res => res
  | bc :: bs, k, row, _ =>
    let t := innerN bc a row (k * 2) (k * 2) 9223372036854775807
    if mc < t.2.2 then mc + 1 else outerN a mc bs (k + 1) t.1 t.2.1
noncomputable def dpN (x y : List Nat) (mc : Nat) : Nat := if mc < (y.length - x.length) * 2 then mc + 1 else outerN x mc y 0 ((List.range x.length).map fun k => 2 + k * 2) 0
noncomputable def levCut (a1 b1 : List Nat) (mc : Nat) : Nat :=
  let q := cpN a1.reverse b1.reverse
  let a2 := a1.take (a1.length - q)
  let b2 := b1.take (b1.length - q)
  if a2.isEmpty || b2.isEmpty then 2 * (a2.length + b2.length)
  else if b2.length < a2.length then dpN b2 a2 mc else dpN a2 b2 mc
noncomputable def levN (a b : List Nat) (mc : Nat) : Nat := if a == b then 0 else levCut (a.drop (cpN a b)) (b.drop (cpN a b)) mc
theorem tab_range : ((List.range 65).all fun n => (match rangeItems [inN n] with | some l => eqPs l ((List.range n).map inN) | none => false) && (match rangeItems [inN 2, inN (2 * (n + 1)), inN 2] with | some l => eqPs l ((List.range n).map fun k => inN (2 + k * 2)) | none => false)) = true := by decide +kernel
theorem range_at {n : Nat} (h : n ≤ 64) : rangeItems [inN n] = some ((List.range n).map inN) ∧ rangeItems [inN 2, inN (2 * (n + 1)), inN 2] = some (((List.range n).map fun k => 2 + k * 2).map inN) := by
  have t := tab_range
  simp only [List.all_eq_true, List.mem_range, Bool.and_eq_true] at t
  obtain ⟨a, b⟩ := t n (by omega)
  constructor
  · revert a; cases rangeItems [inN n] with
    | none => exact fun h => nomatch h
    | some l => exact fun h => by rw [eqPs_eq h]
  · revert b; cases rangeItems [inN 2, inN (2 * (n + 1)), inN 2] with
    | none => exact fun h => nomatch h
    | some l => exact fun h => by rw [eqPs_eq h, List.map_map]; rfl
end Mine
end
section
open PySem PySem.W PySem.Calls PyProof.Rows
set_option Elab.async false
set_option maxRecDepth 100000
namespace Mine
theorem inner_len (bc : Nat) : ∀ (as ds : List Nat) (D R M : Nat), as.length = ds.length → (innerN bc as ds D R M).1.length = as.length
  | [], [], _, _, _, _ => rfl
  | c :: as, d :: ds, D, R, M, h => by
    unfold innerN
    simp only [List.length_cons]
    rw [inner_len bc as ds _ _ _ (by simpa using h)]
theorem cond_pre {a b : List Nat} {p : Nat} (h : p ≤ cpN a b) : ((!(a.drop p).isEmpty) && (!(b.drop p).isEmpty) && (a[p]? == b[p]?)) = decide (p < cpN a b) := by
  by_cases q : p < cpN a b
  · obtain ⟨c, e1, e2⟩ := cp_at a b p q
    have l1 := (List.getElem?_eq_some_iff.mp e1).1
    have l2 := (List.getElem?_eq_some_iff.mp e2).1
    have n1 : (a.drop p).isEmpty = false := by
      cases h : a.drop p with
      | nil => have := congrArg List.length h; simp at this; omega
      | cons => rfl
    have n2 : (b.drop p).isEmpty = false := by
      cases h : b.drop p with
      | nil => have := congrArg List.length h; simp at this; omega
      | cons => rfl
    rw [n1, n2, e1, e2, decide_eq_true q]; simp
  · have e : p = cpN a b := by omega
    rw [decide_eq_false q]
    cases h1 : a[p]? with
    | none =>
      have : a.drop p = [] := List.drop_of_length_le (by have := List.getElem?_eq_none_iff.mp h1; omega)
      rw [this]; simp
    | some c =>
      cases h2 : b[p]? with
      | none =>
        have : b.drop p = [] := List.drop_of_length_le (by have := List.getElem?_eq_none_iff.mp h2; omega)
        rw [this]; simp
      | some d =>
        have := cp_end a b c d (e ▸ h1) (e ▸ h2)
        have : (some c == some d) = false := by simpa using this
        rw [this, Bool.and_false]
theorem cond_post {a b : List Nat} {q : Nat} (h : q ≤ cpN a.reverse b.reverse) : ((!(a.take (a.length - q)).isEmpty) && (!(b.take (b.length - q)).isEmpty) && (a.reverse[q]? == b.reverse[q]?)) = decide (q < cpN a.reverse b.reverse) := by
  rw [← cond_pre h]
  have e : ∀ l : List Nat, (l.take (l.length - q)).isEmpty = (l.reverse.drop q).isEmpty := fun l => by
    rw [Bool.eq_iff_iff, List.isEmpty_iff, List.isEmpty_iff, ← List.length_eq_zero_iff, ← List.length_eq_zero_iff]
    simp
  rw [e, e]
theorem rev_at {l : List Nat} {q : Nat} (h : q < l.length) : l.reverse[q]? = l[l.length - 1 - q]? := by
  rw [List.getElem?_reverse h]
theorem cut_St {l : List Nat} {q : Nat} (hl : l.length ≤ 64) : slice (St l) none (if q = 0 then none else some (-(q : Int))) none = some (St (l.take (l.length - q))) := by
  by_cases h : q = 0
  · rw [if_pos h, whole_St hl, h]; simp
  · rw [if_neg h, upto_St hl (by omega)]
section
variable {Γ : Nat → List PyData → Option PyData} {hG : Hs} {σ : Loc}
theorem evo_cut {x : Str} {i : Nat} {px p p2 : Pos} {k q : Nat} (h : σ.at i = some (.d (.int (-(q : Int))))) : evo Γ hG (.some (.boolop .Or (.cons (.var x i px) (.cons (.none k p) .nil)) p2)) σ = some (if q = 0 then none else some (-(q : Int))) := by
  simp only [evo_e0, evo_e1, ev_e0, ev_e1, ev_e2, ev_e3, ev_e4, ev_e5, ev_e6, ev_e7, ev_e8, ev_e9, ev_e10, ev_e11, ev_e12, ev_e13, ev_e14, ev_e15, ev_e16, ev_e17, ev_e18, ev_e19, ev_e20, ev_e21, ev_e22, ev_e24, evB_e0, evB_e1, h, truth]
  by_cases e : q = 0
  · subst e; rfl
  · have : (-(q : Int) != 0) = true := bne_iff_ne.mpr (by omega)
    rw [this, if_neg e]; rfl
end
end Mine
end
section
open PySem PySem.W PySem.Calls PyProof.Rows
set_option Elab.async false
set_option maxRecDepth 100000
namespace Mine
theorem mulD {a b : Int} (h : (smallI a && smallI b) = true) : binop .Mult (.int a) (.int b) = some (.int (a * b)) := by
  have : onInts (fun a b => if smallI a && smallI b then some (PyData.int (a * b)) else none) (.int a) (.int b) = some (.int (a * b)) := by
    unfold onInts
    exact if_pos h
  exact this
theorem small_nat {n : Nat} (h : n < 1000000) : smallI (n : Int) = true := by
  unfold smallI
  rw [decide_eq_true (show -(2 ^ 60) < (n : Int) by omega), decide_eq_true (show (n : Int) < 2 ^ 60 by omega)]; rfl
theorem mul_int {a b : Nat} (ha : a < 1000000) (hb : b < 1000000) : binop .Mult (inN a) (inN b) = some (inN (a * b)) := by
  unfold inN
  rw [mulD (by rw [small_nat ha, small_nat hb]; rfl), Int.natCast_mul]
theorem sub_int {a b : Nat} (h : a ≤ b) : binop .Sub (inN b) (inN a) = some (inN (b - a)) := by
  show some (PyData.int ((b : Int) - (a : Int))) = some (PyData.int ((b - a : Nat) : Int))
  congr 2; omega
theorem add_inN (a b : Nat) : binop .Add (inN a) (inN b) = some (inN (a + b)) := rfl
theorem lt_inN (a b : Nat) : cmpop .Lt (inN a) (inN b) = some (decide (a < b)) := lt_int a b
theorem gt_inN (a b : Nat) : cmpop .Gt (inN a) (inN b) = some (decide (b < a)) := gt_int a b
theorem okC_mem {a b : List Nat} (h : okC b) (hm : ∀ c ∈ a, c ∈ b) : okC a := fun c hc => h c (hm c hc)
theorem sing_eq {o p : Option Nat} {c d : Nat} (h1 : o = some c) (h2 : p = some d) : ([c] == [d]) = (o == p) := by
  rw [h1, h2, Bool.eq_iff_iff, beq_iff_eq, beq_iff_eq]; simp
theorem range_cons {x : Nat} {post : List Nat} {k n : Nat} (e : x :: post = List.range' k n) : x = k ∧ ∃ m, n = m + 1 ∧ post = List.range' (k + 1) m := by
  cases n with
  | zero => simp at e
  | succ n =>
    rw [List.range'_succ] at e
    cases e
    exact ⟨rfl, n, rfl, rfl⟩
theorem drop_cons {α : Type} {l : List α} {k : Nat} {x : α} {r : List α} (h : l.drop k = x :: r) : l[k]? = some x ∧ l.drop (k + 1) = r := by
  constructor
  · have := congrArg (·[0]?) h
    simpa [List.getElem?_drop] using this
  · have := congrArg List.tail h
    simpa [List.tail_drop] using this
noncomputable def cellN (D s d R : Nat) : Nat := if D + s < (if d < R then d else R) + 2 then D + s else (if d < R then d else R) + 2
theorem innerN_cons (bc c d D R M : Nat) (as ds : List Nat) : innerN bc (c :: as) (d :: ds) D R M = (cellN D (scN bc c) d R :: (innerN bc as ds d (cellN D (scN bc c) d R) (if cellN D (scN bc c) d R < M then cellN D (scN bc c) d R else M)).1, (innerN bc as ds d (cellN D (scN bc c) d R) (if cellN D (scN bc c) d R < M then cellN D (scN bc c) d R else M)).2) := rfl
theorem outerN_cons (a : List Nat) (mc bc : Nat) (bs : List Nat) (k : Nat) (row : List Nat) (res : Nat) : outerN a mc (bc :: bs) k row res = if mc < (innerN bc a row (k * 2) (k * 2) 9223372036854775807).2.2 then mc + 1 else outerN a mc bs (k + 1) (innerN bc a row (k * 2) (k * 2) 9223372036854775807).1 (innerN bc a row (k * 2) (k * 2) 9223372036854775807).2.1 := rfl
theorem set_mid {f : Nat → PyData} {done ds : List Nat} {d r i : Nat} (h : done.length = i) : ((done ++ d :: ds).map f).set i (f r) = ((done ++ [r]) ++ ds).map f := by
  subst h
  rw [List.map_append, List.set_append_right _ _ (by simp)]
  simp
theorem ev_listOf {Γ : Nat → List PyData → Option PyData} {hG : Hs} {σ : Loc} {px p2 p : Pos} {q : Pos} {es : IEs} {xs l : List PyData} (h : evs Γ hG es σ = some xs) (h2 : rangeItems xs = some l) : ev Γ hG (.listOf px (.range q es p2) p) σ = some (.list l) := by
  simp only [ev_e0, ev_e1, ev_e2, ev_e3, ev_e4, ev_e5, ev_e6, ev_e7, ev_e8, ev_e9, ev_e10, ev_e11, ev_e12, ev_e13, ev_e14, ev_e15, ev_e16, ev_e17, ev_e18, ev_e19, ev_e20, ev_e21, ev_e22, ev_e24, h, h2]; rfl
theorem range_it {Γ : Nat → List PyData → Option PyData} {hG : Hs} {σ : Loc} {px p : Pos} {e : IE} {n : Nat} (h : ev Γ hG e σ = some (inN n)) (hn : n ≤ 64) : evit Γ hG (.range px (.cons e .nil) p) σ = some ((List.range' 0 n).map inN) := by
  rw [← List.range_eq_range']
  exact evit_range (evs_cons h rfl) (range_at hn).1
namespace L3
noncomputable def leveTail : ISs := match leve.body with
  | .cons _ (.cons _ (.cons _ (.cons _ (.cons _ (.cons _ (.cons _ (.cons _ (.cons _ (.cons _ (.cons _ (.cons _ t))))))))))) => t
  | _ => .nil
section
variable {Γ : Nat → List PyData → Option PyData} {hG : Hs}
noncomputable def SubOk (Γ : Nat → List PyData → Option PyData) (P : Nat → Prop) : Prop := ∀ c d, P c → P d → Γ 0 [St [c], St [d]] = some (inN (scN c d))
theorem leve_dp {P : Nat → Prop} (hsub : SubOk Γ P) {x y : List Nat} {mc : Nat} {u v : Option LV} (hx : x.length ≤ y.length) (hy : y.length ≤ 40) (px : ∀ c ∈ x, P c) (py : ∀ c ∈ y, P c) :
    Xs Γ hG leveTail [some (.d (St x)), some (.d (St y)), some (.d (inN mc)), u, v, none, none, none, none, none, none, none, none, none] fun fl _ => fl = .ret (inN (dpN x y mc)) := by
  have lx : x.length ≤ 64 := by omega
  have ly : y.length ≤ 64 := by omega
  refine Xs.iteB (vw rfl <| ev_cmp (vw rfl <| ev_bin (vw rfl <| ev_bin (vw rfl <| ev_call1 rfl (len_St ly)) (vw rfl <| ev_call1 rfl (len_St lx)) (sub_int hx)) (vw rfl rfl) (mul_int (b := 2) (by omega) (by decide))) rfl (gt_inN _ _)) (fun c => ?_) (fun c => ?_)
  · refine Xs.ret (ev_bin rfl rfl (add_inN mc 1)) ?_
    unfold dpN
    rw [if_pos (of_decide_eq_true c)]
  · refine Xs.nil ?_
    have hF : dpN x y mc = outerN x mc y 0 ((List.range x.length).map fun k => 2 + k * 2) 0 := by
      unfold dpN; rw [if_neg (of_decide_eq_false c)]
    rw [hF]
    refine Xs.asgO rfl (xs := ((List.range x.length).map fun k => 2 + k * 2).map inN) ?_ ?_
    · exact ev_listOf (evs_cons (d := inN 2) rfl (evs_cons (ev_bin (d := inN 2) rfl (vw rfl <| ev_bin (vw rfl <| ev_call1 rfl (len_St lx)) rfl (add_inN x.length 1)) (mul_int (a := 2) (by decide) (by omega))) (evs_cons (d := inN 2) rfl rfl))) (range_at lx).2
    refine Xs.asg (d := inN 0) rfl ?_
    refine Xs.forS (w := inN) (bs := List.range' 0 y.length) ?_ (fun js σ => ∃ k bs row res v7 v8 v9 v10 v11 v12 v13, js = List.range' k bs.length ∧ y.drop k = bs ∧ row.length = x.length ∧ outerN x mc bs k row res = outerN x mc y 0 ((List.range x.length).map fun k => 2 + k * 2) 0 ∧ σ = [some (.d (St x)), some (.d (St y)), some (.d (inN mc)), u, v, some (.ml (row.map inN)), some (.d (inN res)), v7, v8, v9, v10, v11, v12, v13])
      ⟨0, y, (List.range x.length).map fun k => 2 + k * 2, 0, none, none, none, none, none, none, none, rfl, rfl, by simp, rfl, rfl⟩ ?_ ?_
    · exact range_it (ev_call1 rfl (len_St ly)) ly
    · rintro j post σ ⟨k, bs, row, res, v7, v8, v9, v10, v11, v12, v13, e1, e2, e3, e4, rfl⟩
      obtain ⟨rfl, m, hm, rfl⟩ := range_cons e1
      cases bs with
      | nil => simp at hm
      | cons bc bs =>
        have hm' : m = bs.length := by simpa using hm.symm
        subst hm'
        obtain ⟨g1, g2⟩ := drop_cons e2
        have hk : j < y.length := (List.getElem?_eq_some_iff.mp g1).1
        have pbc : P bc := py bc (List.mem_of_getElem? g1)
        refine ⟨_, rfl, ?_⟩
        refine Xs.asg (ev_sub rfl rfl (get_St ly g1)) ?_
        refine Xs.asg2 (d := inN (j * 2)) (ev_bin rfl (vw rfl rfl) (mul_int (b := 2) (by omega) (by decide))) ?_
        refine Xs.asg (d := inN 9223372036854775807) rfl ?_
        rw [outerN_cons] at e4
        refine Xs.forS (w := inN) (bs := List.range' 0 x.length) ?_ (fun js σ => ∃ i as ds done D R M v11 v12 v13, js = List.range' i as.length ∧ x.drop i = as ∧ done.length = i ∧ ds.length = as.length ∧ (done ++ (innerN bc as ds D R M).1, (innerN bc as ds D R M).2) = innerN bc x row (j * 2) (j * 2) 9223372036854775807 ∧ σ = [some (.d (St x)), some (.d (St y)), some (.d (inN mc)), u, v, some (.ml ((done ++ ds).map inN)), some (.d (inN R)), some (.d (inN j)), some (.d (St [bc])), some (.d (inN D)), some (.d (inN M)), v11, v12, v13])
          ⟨0, x, row, [], j * 2, j * 2, _, v11, v12, v13, rfl, rfl, rfl, e3, rfl, rfl⟩ ?_ ?_
        · exact range_it (ev_call1 rfl (len_St lx)) lx
        · rintro i post2 σ ⟨i0, as, ds, done, D, R, M, v11, v12, v13, f1, f2, f3, f4, f5, rfl⟩
          obtain ⟨rfl, m2, hm2, rfl⟩ := range_cons f1
          cases as with
          | nil => simp at hm2
          | cons c as =>
            have hm2' : m2 = as.length := by simpa using hm2.symm
            subst hm2'
            cases ds with
            | nil => simp at f4
            | cons d ds =>
              obtain ⟨k1, k2⟩ := drop_cons f2
              have hi : i < x.length := (List.getElem?_eq_some_iff.mp k1).1
              have pc : P c := px c (List.mem_of_getElem? k1)
              have hlen : (done ++ d :: ds).length = x.length := by
                have := congrArg List.length f2
                simp only [List.length_drop, List.length_cons] at this f4 ⊢
                rw [List.length_append, List.length_cons]; omega
              have gd : (done ++ d :: ds)[i]? = some d := by
                rw [List.getElem?_append_right (by omega), f3, Nat.sub_self]; rfl
              refine ⟨_, rfl, ?_⟩
              refine Xs.asg (ev_bin rfl (vw rfl <| ev_callF (evs_cons rfl (evs_cons (ev_sub rfl rfl (get_St lx k1)) rfl)) (hsub bc c pbc pc)) (add_inN D _)) ?_
              refine Xs.asg (ev_sub rfl rfl (get_map (f := inN) (by omega) gd)) ?_
              refine Xs.asg (ev_bin (vw rfl <| ev_call2 rfl rfl (min_int R d)) (vw rfl rfl) (add_inN _ 2)) ?_
              refine Xs.asg (ev_call2 rfl rfl (min_int _ _)) ?_
              refine Xs.seti rfl rfl (n := i) rfl (by rw [List.length_map]; omega) (by rw [List.length_map]; omega) ?_
              refine Xs.iteB (vw rfl <| ev_cmp rfl rfl (lt_inN _ _)) (fun c2 => ?_) (fun c2 => ?_)
              · refine Xs.asg rfl (Xs.nil (Xs.nil ⟨i + 1, as, ds, done ++ [_], d, _, _, _, _, _, rfl, k2, by rw [List.length_append, f3]; rfl, by simpa using f4, ?_, by rw [set_mid f3]; rfl⟩))
                rw [← f5, innerN_cons]
                unfold cellN
                simp only [if_pos (of_decide_eq_true c2), List.append_assoc, List.singleton_append]
              · refine Xs.nil (Xs.nil ⟨i + 1, as, ds, done ++ [_], d, _, _, _, _, _, rfl, k2, by rw [List.length_append, f3]; rfl, by simpa using f4, ?_, by rw [set_mid f3]; rfl⟩)
                rw [← f5, innerN_cons]
                unfold cellN
                simp only [if_neg (of_decide_eq_false c2), List.append_assoc, List.singleton_append]
        · rintro σ ⟨i, as, ds, done, D, R, M, v11, v12, v13, f1, f2, f3, f4, f5, rfl⟩
          have ha : as = [] := by
            cases as with
            | nil => rfl
            | cons => simp [List.range'_succ] at f1
          subst ha
          have hd : ds = [] := List.length_eq_zero_iff.mp f4
          subst hd
          have f5' : innerN bc x row (j * 2) (j * 2) 9223372036854775807 = (done, R, M) := by
            rw [← f5]; unfold innerN; rw [List.append_nil]
          rw [f5'] at e4
          refine Xs.iteB (vw rfl <| ev_cmp rfl rfl (gt_inN _ _)) (fun c2 => ?_) (fun c2 => ?_)
          · refine Xs.ret (ev_bin rfl rfl (add_inN mc 1)) ?_
            simp only [if_pos (of_decide_eq_true c2)] at e4
            rw [← e4]
          · simp only [if_neg (of_decide_eq_false c2)] at e4
            refine Xs.nil (Xs.nil ⟨j + 1, bs, done, R, _, _, _, _, _, _, _, rfl, g2, ?_, e4, by rw [List.append_nil]⟩)
            have := congrArg (fun t => t.1.length) f5'
            simp only at this
            rw [← this, inner_len bc x row _ _ _ e3.symm]
    · rintro σ ⟨k, bs, row, res, v7, v8, v9, v10, v11, v12, v13, e1, e2, e3, e4, rfl⟩
      have hb : bs = [] := by
        cases bs with
        | nil => rfl
        | cons => simp [List.range'_succ] at e1
      subst hb
      exact Xs.ret rfl (by rw [← e4]; rfl)
end
end L3
end Mine
end
section
open PySem PySem.W PySem.Calls PyProof.Rows
set_option Elab.async false
set_option maxRecDepth 100000
namespace Mine
theorem Xs.iteT {Γ : Nat → List PyData → Option PyData} {hG : Hs} {r b o : ISs} {σ : Loc} {Q : Fl → Loc → Prop} {t : IE} {p : Pos} {c : Bool} (h : (view t σ (ev Γ hG t σ)).bind truth = some c) (k1 : c = true → Xs Γ hG b σ fun fl σ' => match fl with | .next => Xs Γ hG r σ' Q | .ret d => Q (.ret d) σ') (k2 : c = false → Xs Γ hG o σ fun fl σ' => match fl with | .next => Xs Γ hG r σ' Q | .ret d => Q (.ret d) σ') : Xs Γ hG (.cons (.ite t b o p) r) σ Q := by
  refine Xs.ite h ?_
  cases c with
  | true => exact k1 rfl
  | false => exact k2 rfl
theorem ev_notT {Γ : Nat → List PyData → Option PyData} {hG : Hs} {σ : Loc} {x : IE} {p : Pos} {d : PyData} {c : Bool} (h1 : view x σ (ev Γ hG x σ) = some d) (h2 : truth d = some c) : ev Γ hG (.not x p) σ = some (.bool !c) := by
  simp only [ev_e0, ev_e1, ev_e2, ev_e3, ev_e4, ev_e5, ev_e6, ev_e7, ev_e8, ev_e9, ev_e10, ev_e11, ev_e12, ev_e13, ev_e14, ev_e15, ev_e16, ev_e17, ev_e18, ev_e19, ev_e20, ev_e21, ev_e22, ev_e24, h1, h2]; rfl
theorem truth_bool (c : Bool) : truth (.bool c) = some c := rfl
namespace L3
variable {Γ : Nat → List PyData → Option PyData} {hG : Hs}
theorem leve_run {P : Nat → Prop} (hsub : SubOk Γ P) (hP : ∀ c, P c → c < 128) {a b : List Nat} {mc : Nat} (ha : a.length ≤ 40) (hb : b.length ≤ 40) (pa : ∀ c ∈ a, P c) (pb : ∀ c ∈ b, P c) : runF Γ hG leve.body leve.pn leve.n [St a, St b, inN mc] = some (inN (levN a b mc)) := by
  have la : a.length ≤ 64 := by omega
  have lb : b.length ≤ 64 := by omega
  have oa : okC a := fun c h => hP c (pa c h)
  have ob : okC b := fun c h => hP c (pb c h)
  refine Xs.runF rfl ?_
  refine Xs.iteB (vw rfl <| ev_cmp rfl rfl (eq_St oa ob)) (fun c => ?_) (fun c => ?_)
  · refine Xs.ret (d := inN 0) rfl ?_
    unfold levN; rw [if_pos c]
  refine Xs.nil ?_
  have hne : levN a b mc = levCut (a.drop (cpN a b)) (b.drop (cpN a b)) mc := by
    unfold levN; rw [if_neg (by rw [c]; exact Bool.false_ne_true)]
  rw [hne]
  clear hne
  have cle := cp_le a b
  refine Xs.asg (d := inN 0) rfl ?_
  refine Xs.whl (fun n σ => ∃ p, p ≤ cpN a b ∧ 63 ≤ n + p ∧ σ = [some (.d (St a)), some (.d (St b)), some (.d (inN mc)), some (.d (inN p)), none, none, none, none, none, none, none, none, none, none]) ?_ ⟨0, Nat.zero_le _, Nat.le_refl _, rfl⟩
  rintro n σ ⟨p, hp, hnp, rfl⟩
  have hc : ∀ p, p ≤ cpN a b → ((!(a.drop p).isEmpty) && (!(b.drop p).isEmpty) && (a[p]? == b[p]?)) = decide (p < cpN a b) := fun p h => cond_pre h
  have cnd := and3 (Γ := Γ) (hG := hG) (σ := [some (.d (St a)), some (.d (St b)), some (.d (inN mc)), some (.d (inN p)), none, none, none, none, none, none, none, none, none, none])
    (x := .slc (.var "a" 0 ⟨49, 10, 49, 11⟩) (.some (.var "pre" 3 ⟨49, 12, 49, 15⟩)) .none .none ⟨49, 12, 49, 16⟩ ⟨49, 10, 49, 17⟩) (y := .slc (.var "b" 1 ⟨49, 22, 49, 23⟩) (.some (.var "pre" 3 ⟨49, 24, 49, 27⟩)) .none .none ⟨49, 24, 49, 28⟩ ⟨49, 22, 49, 29⟩) (z := .cmp .Eq (.sub (.var "a" 0 ⟨49, 35, 49, 36⟩) (.var "pre" 3 ⟨49, 37, 49, 40⟩) ⟨49, 35, 49, 41⟩) (.sub (.var "b" 1 ⟨49, 45, 49, 46⟩) (.var "pre" 3 ⟨49, 47, 49, 50⟩) ⟨49, 45, 49, 51⟩) ⟨49, 35, 49, 51⟩) (p := ⟨49, 10, 49, 52⟩)
    (ev_slc rfl rfl rfl (from_St (p := p) la)) (truth_St (by rw [List.length_drop]; omega)) (ev_slc rfl rfl rfl (from_St (p := p) lb)) (truth_St (by rw [List.length_drop]; omega)) (c := a[p]? == b[p]?) (fun t1 t2 => by
      have h1 : p < a.length := by
        rcases Nat.lt_or_ge p a.length with h | h
        · exact h
        · rw [List.drop_of_length_le h] at t1; cases t1
      have h2 : p < b.length := by
        rcases Nat.lt_or_ge p b.length with h | h
        · exact h
        · rw [List.drop_of_length_le h] at t2; cases t2
      have e1 := List.getElem?_eq_getElem h1
      have e2 := List.getElem?_eq_getElem h2
      rw [← sing_eq e1 e2]
      exact ev_cmp (vw rfl <| ev_sub rfl rfl (get_St la e1)) (vw rfl <| ev_sub rfl rfl (get_St lb e2)) (eq_St (okC_mem oa (by simp)) (okC_mem ob (by simp))))
  rw [hc p hp] at cnd
  by_cases hlt : p < cpN a b
  · rw [decide_eq_true hlt] at cnd
    refine .inr ⟨cnd, ?_⟩
    cases n with
    | zero => omega
    | succ n =>
      refine ⟨n, rfl, ?_⟩
      refine Xs.aug (c := inN (p + 1)) rfl rfl rfl ?_
      exact Xs.nil ⟨rfl, p + 1, hlt, by omega, rfl⟩
  rw [decide_eq_false hlt] at cnd
  have hp' : p = cpN a b := by omega
  refine .inl ⟨cnd, ?_⟩
  rw [← hp']
  refine Xs.asg (ev_slc rfl rfl rfl (from_St (p := p) la)) ?_
  refine Xs.asg (ev_slc rfl rfl rfl (from_St (p := p) lb)) ?_
  refine Xs.asg (d := .int (-((0 : Nat) : Int))) rfl ?_
  have la1 : (a.drop p).length ≤ 40 := by rw [List.length_drop]; omega
  have lb1 : (b.drop p).length ≤ 40 := by rw [List.length_drop]; omega
  have pa1 : ∀ c ∈ a.drop p, P c := fun c h => pa c (List.mem_of_mem_drop h)
  have pb1 : ∀ c ∈ b.drop p, P c := fun c h => pb c (List.mem_of_mem_drop h)
  clear cnd hlt hp' hc hp hnp
  generalize a.drop p = a1 at *
  generalize b.drop p = b1 at *
  have cle1 := cp_le a1.reverse b1.reverse
  simp only [List.length_reverse] at cle1
  have oa1 : okC a1 := fun c h => hP c (pa1 c h)
  have ob1 : okC b1 := fun c h => hP c (pb1 c h)
  refine Xs.whl (fun n σ => ∃ q, q ≤ cpN a1.reverse b1.reverse ∧ 63 ≤ n + q ∧ σ = [some (.d (St a1)), some (.d (St b1)), some (.d (inN mc)), some (.d (inN p)), some (.d (.int (-(q : Int)))), none, none, none, none, none, none, none, none, none]) ?_ ⟨0, Nat.zero_le _, Nat.le_refl _, rfl⟩
  rintro n σ ⟨q, hq, hnq, rfl⟩
  have la2 : a1.length ≤ 64 := by omega
  have lb2 : b1.length ≤ 64 := by omega
  have cnd := and3 (Γ := Γ) (hG := hG) (σ := [some (.d (St a1)), some (.d (St b1)), some (.d (inN mc)), some (.d (inN p)), some (.d (.int (-(q : Int)))), none, none, none, none, none, none, none, none, none])
    (x := .slc (.var "a" 0 ⟨54, 10, 54, 11⟩) .none (.some (.boolop .Or (.cons (.var "post" 4 ⟨54, 13, 54, 17⟩) (.cons (.none 0 ⟨54, 21, 54, 25⟩) .nil)) ⟨54, 13, 54, 25⟩)) .none ⟨54, 12, 54, 25⟩ ⟨54, 10, 54, 26⟩) (y := .slc (.var "b" 1 ⟨54, 31, 54, 32⟩) .none (.some (.boolop .Or (.cons (.var "post" 4 ⟨54, 34, 54, 38⟩) (.cons (.none 0 ⟨54, 42, 54, 46⟩) .nil)) ⟨54, 34, 54, 46⟩)) .none ⟨54, 33, 54, 46⟩ ⟨54, 31, 54, 47⟩)
    (z := .cmp .Eq (.sub (.var "a" 0 ⟨54, 53, 54, 54⟩) (.bin .Sub (.var "post" 4 ⟨54, 55, 54, 59⟩) (.int 1 0 ⟨54, 62, 54, 63⟩) ⟨54, 55, 54, 63⟩) ⟨54, 53, 54, 64⟩) (.sub (.var "b" 1 ⟨54, 68, 54, 69⟩) (.bin .Sub (.var "post" 4 ⟨54, 70, 54, 74⟩) (.int 1 0 ⟨54, 77, 54, 78⟩) ⟨54, 70, 54, 78⟩) ⟨54, 68, 54, 79⟩) ⟨54, 53, 54, 79⟩) (p := ⟨54, 10, 54, 80⟩)
    (ev_slc rfl rfl (evo_cut rfl) (cut_St (q := q) la2)) (truth_St (by rw [List.length_take]; omega)) (ev_slc rfl rfl (evo_cut rfl) (cut_St (q := q) lb2)) (truth_St (by rw [List.length_take]; omega)) (c := a1.reverse[q]? == b1.reverse[q]?) (fun t1 t2 => by
      have h1 : q < a1.length := by
        rcases Nat.lt_or_ge q a1.length with h | h
        · exact h
        · rw [Nat.sub_eq_zero_of_le h] at t1; cases t1
      have h2 : q < b1.length := by
        rcases Nat.lt_or_ge q b1.length with h | h
        · exact h
        · rw [Nat.sub_eq_zero_of_le h] at t2; cases t2
      have e1 : a1[a1.length - 1 - q]? = some _ := List.getElem?_eq_getElem (by omega)
      have e2 : b1[b1.length - 1 - q]? = some _ := List.getElem?_eq_getElem (by omega)
      rw [← sing_eq ((rev_at h1).trans e1) ((rev_at h2).trans e2)]
      exact ev_cmp (vw rfl <| ev_sub rfl (ev_bin rfl rfl rfl) (getN_St la2 h1 e1)) (vw rfl <| ev_sub rfl (ev_bin rfl rfl rfl) (getN_St lb2 h2 e2)) (eq_St (okC_mem oa1 (by simp)) (okC_mem ob1 (by simp))))
  rw [cond_post hq] at cnd
  by_cases hlt : q < cpN a1.reverse b1.reverse
  · rw [decide_eq_true hlt] at cnd
    refine .inr ⟨cnd, ?_⟩
    cases n with
    | zero => omega
    | succ n =>
      refine ⟨n, rfl, ?_⟩
      refine Xs.aug (c := .int (-((q + 1 : Nat) : Int))) rfl rfl ?_ ?_
      · show some (PyData.int (-(q : Int) - 1)) = _
        congr 2; omega
      exact Xs.nil ⟨rfl, q + 1, hlt, by omega, rfl⟩
  rw [decide_eq_false hlt] at cnd
  have hq' : q = cpN a1.reverse b1.reverse := by omega
  refine .inl ⟨cnd, ?_⟩
  have hcut : levCut a1 b1 mc = if (a1.take (a1.length - q)).isEmpty || (b1.take (b1.length - q)).isEmpty then 2 * ((a1.take (a1.length - q)).length + (b1.take (b1.length - q)).length) else if (b1.take (b1.length - q)).length < (a1.take (a1.length - q)).length then dpN (b1.take (b1.length - q)) (a1.take (a1.length - q)) mc else dpN (a1.take (a1.length - q)) (b1.take (b1.length - q)) mc := by
    rw [hq']; rfl
  rw [hcut]
  refine Xs.asg (ev_slc rfl rfl (evo_cut rfl) (cut_St (q := q) la2)) ?_
  refine Xs.asg (ev_slc rfl rfl (evo_cut rfl) (cut_St (q := q) lb2)) ?_
  have la3 : (a1.take (a1.length - q)).length ≤ 40 := by rw [List.length_take]; omega
  have lb3 : (b1.take (b1.length - q)).length ≤ 40 := by rw [List.length_take]; omega
  have pa3 : ∀ c ∈ a1.take (a1.length - q), P c := fun c h => pa1 c (List.mem_of_mem_take h)
  have pb3 : ∀ c ∈ b1.take (b1.length - q), P c := fun c h => pb1 c (List.mem_of_mem_take h)
  clear cnd hlt hq hnq hcut cle1 la1 lb1 pa1 pb1 oa1 ob1 la2 lb2
  generalize a1.take (a1.length - q) = a2 at *
  generalize b1.take (b1.length - q) = b2 at *
  have la4 : a2.length ≤ 64 := by omega
  have lb4 : b2.length ≤ 64 := by omega
  refine Xs.iteT (or2 (ev_notT rfl (truth_St la4)) (truth_bool _) (ev_notT rfl (truth_St lb4)) (truth_bool _)) (fun c => ?_) (fun c => ?_)
  · rw [Bool.not_not, Bool.not_not] at c
    rw [if_pos c]
    exact Xs.ret (ev_bin (d := inN 2) rfl (vw rfl <| ev_bin (vw rfl <| ev_call1 rfl (len_St la4)) (vw rfl <| ev_call1 rfl (len_St lb4)) (add_inN _ _)) (mul_int (a := 2) (by decide) (by omega))) rfl
  rw [Bool.not_not, Bool.not_not] at c
  rw [if_neg (by rw [c]; exact Bool.false_ne_true)]
  refine Xs.nil ?_
  refine Xs.iteT (or2 (ev_cmp (vw rfl <| ev_call1 rfl (len_St la4)) (vw rfl rfl) (gt_inN a2.length 40)) (truth_bool _) (ev_cmp (vw rfl <| ev_call1 rfl (len_St lb4)) (vw rfl rfl) (gt_inN b2.length 40)) (truth_bool _)) (fun c => ?_) (fun _ => Xs.nil ?_)
  · rw [decide_eq_false (by omega), decide_eq_false (by omega)] at c; cases c
  refine Xs.iteB (vw rfl <| ev_cmp (vw rfl <| ev_call1 rfl (len_St lb4)) (vw rfl <| ev_call1 rfl (len_St la4)) (lt_inN _ _)) (fun c => ?_) (fun c => ?_)
  · rw [if_pos (of_decide_eq_true c)]
    refine Xs.swp rfl rfl (Xs.nil ?_)
    exact leve_dp hsub (by have := of_decide_eq_true c; omega) la3 pb3 pa3
  · rw [if_neg (of_decide_eq_false c)]
    refine Xs.nil ?_
    exact leve_dp hsub (by have := of_decide_eq_false c; omega) lb3 pa3 pb3
end L3
end Mine
end
section
open PySem PySem.W PySem.Calls PyProof.Rows
set_option Elab.async false
set_option maxRecDepth 100000
namespace Mine
namespace L3
noncomputable def cc (n k : Nat) : Nat := (if n.testBit k then 65 else 97) + k
noncomputable def ws (n : Nat) : Str := ⟨((List.range 4).map (cc n)).toArray⟩
noncomputable def wd (n : Nat) : PyData := .str (ws n)
noncomputable def KL : Nat → List Nat
  | 0 => [0] | 1 => [1] | 2 => [2] | 3 => [3] | 4 => [0, 1] | 5 => [0, 2] | 6 => [0, 3] | 7 => [1, 2] | 8 => [1, 3] | 9 => [2, 3] | _ => []
noncomputable def KI (i : Nat) : PyData := .list ((KL i).map fun (k : Nat) => .int (k : Int))
noncomputable def MK : Nat → Nat
  | 0 => 1 | 1 => 2 | 2 => 4 | 3 => 8 | 4 => 3 | 5 => 5 | 6 => 9 | 7 => 6 | 8 => 10 | 9 => 12 | _ => 0
noncomputable def ls (n i : Nat) : Str := ⟨((KL i).map (cc n)).toArray⟩
noncomputable def ps (n i : Nat) : Str := ⟨((List.range 4).flatMap fun k => if (KL i).contains k then [46, 46, 46] else [cc n k]).toArray⟩
noncomputable def pt (n i : Nat) : PyData := .str (ps n i)
noncomputable def adj (n m : Nat) : Bool := [1, 2, 4, 8].contains (n ^^^ m)
noncomputable def hits (n i m : Nat) : Bool := (n ^^^ m) &&& (15 - MK i) == 0
theorem tab_lett : ((List.range 16).all fun n => (List.range 11).all fun i => eqO (lettR [wd n, KI i]) (.str (ls n i))) = true := by decide +kernel
theorem lett_at {n i : Nat} (h : n < 16) (h' : i < 11) : lettR [wd n, KI i] = some (.str (ls n i)) := by
  have t := tab_lett
  simp only [List.all_eq_true, List.mem_range] at t
  exact eqO_eq (t n h i h')
theorem tab_elli : ((List.range 11).all fun i => (List.range 16).all fun n => n &&& MK i != 0 || (List.range 16).all fun m => eqO (elliR [pt n i, wd m]) (.bool (hits n i m))) = true := by decide +kernel
theorem elli_at {n i m : Nat} (h : n < 16) (h' : i < 11) (hm : m < 16) (z : n &&& MK i = 0) : elliR [pt n i, wd m] = some (.bool (hits n i m)) := by
  have t := tab_elli
  simp only [List.all_eq_true, List.mem_range] at t
  have t' := t i h' n h
  rw [Bool.or_eq_true] at t'
  rcases t' with q | q
  · rw [z] at q; cases q
  · simp only [List.all_eq_true, List.mem_range] at q
    exact eqO_eq (q m hm)
noncomputable def pl (n i : Nat) : List Nat := (List.range 4).flatMap fun k => if (KL i).contains k then [46, 46, 46] else [cc n k]
noncomputable def Pc (c : Nat) : Prop := codes.contains c = true
theorem subc_St : SubOk Γ1 Pc := by
  intro c d hc hd
  show subcS [St [c], St [d]] = _
  unfold subcS St
  simp only []
  rw [show codes.contains c = true from hc, show codes.contains d = true from hd]
  simp only [Bool.and_self, if_true, inN]
  unfold scN
  split
  · rfl
  · split <;> rfl
theorem tab_leve : ((List.range 11).all fun i => (List.range 16).all fun n => n &&& MK i != 0 || ((pl n i).all (codes.contains ·) && decide ((pl n i).length ≤ 40) && (List.range 16).all fun m => m &&& MK i != 0 || (levN (pl n i) (pl m i) 1 == 1) == adj n m)) = true := by decide +kernel
theorem leve_fact {n i : Nat} (h : n < 16) (h' : i < 11) (z : n &&& MK i = 0) : (∀ c ∈ pl n i, Pc c) ∧ (pl n i).length ≤ 40 ∧ ∀ m, m < 16 → m &&& MK i = 0 → (levN (pl n i) (pl m i) 1 == 1) = adj n m := by
  have t := tab_leve
  simp only [List.all_eq_true, List.mem_range] at t
  have t' := t i h' n h
  rw [z, Bool.or_eq_true] at t'
  rcases t' with q | q
  · cases q
  · simp only [Bool.and_eq_true, decide_eq_true_eq, List.all_eq_true, List.mem_range] at q
    refine ⟨q.1.1, q.1.2, fun m hm z' => ?_⟩
    have q' := q.2 m hm
    rw [z', Bool.or_eq_true] at q'
    rcases q' with q' | q'
    · cases q'
    · exact eq_of_beq q'
theorem leve_at {n i m : Nat} (h : n < 16) (h' : i < 11) (hm : m < 16) (z : n &&& MK i = 0) (z' : m &&& MK i = 0) : ∃ d : Int, leveR [pt n i, pt m i, .int 1] = some (.int d) ∧ (d == 1) = adj n m := by
  obtain ⟨a1, a2, a3⟩ := leve_fact h h' z
  obtain ⟨b1, b2, _⟩ := leve_fact hm h' z'
  refine ⟨((levN (pl n i) (pl m i) 1 : Nat) : Int), leve_run (mc := 1) subc_St (fun c hc => ?_) a2 b2 a1 b1, ?_⟩
  · have : ∀ c ∈ codes, c < 128 := by decide
    exact this c (List.contains_iff_mem.mp hc)
  · rw [← a3 m hm z', Bool.eq_iff_iff, beq_iff_eq, beq_iff_eq]
    generalize levN (pl n i) (pl m i) 1 = z
    omega
end L3
end Mine
end
section
open PySem PySem.W PySem.Calls PyProof.Rows
set_option Elab.async false
set_option maxRecDepth 100000
namespace Mine
namespace L3
theorem abcd : PyData.str "abcd" = wd 0 := eqP_eq (by decide +kernel)
theorem tab_ok : ((List.range 16).all fun n => (List.range 11).all fun i => PyData.strOk (ws n) && PyData.strOk (ls n i) && PyData.strOk (ps n i) && ((ls n i == ls 0 i) == (n &&& MK i == 0)) && (ls n i == ls (n &&& MK i) i)) = true := by decide +kernel
theorem ok_at {n i : Nat} (h : n < 16) (h' : i < 11) : PyData.strOk (ws n) = true ∧ PyData.strOk (ls n i) = true ∧ PyData.strOk (ps n i) = true ∧ (ls n i == ls 0 i) = (n &&& MK i == 0) ∧ ls n i = ls (n &&& MK i) i := by
  have t := tab_ok
  simp only [List.all_eq_true, List.mem_range, Bool.and_eq_true, beq_iff_eq] at t
  obtain ⟨⟨⟨⟨a, b⟩, c⟩, d⟩, e⟩ := t n h i h'
  exact ⟨a, b, c, d, e⟩
theorem tab_inj : ((List.range 11).all fun i => (List.range 16).all fun n => (List.range 16).all fun m => ((n &&& MK i != 0) || (m &&& MK i != 0) || ps n i != ps m i || n == m) && (ls n i != ls m i || n &&& MK i == m &&& MK i)) = true := by decide +kernel
theorem ps_inj {n m i : Nat} (h : n < 16) (hm : m < 16) (h' : i < 11) (z : n &&& MK i = 0) (z' : m &&& MK i = 0) (e : ps n i = ps m i) : n = m := by
  have t := tab_inj
  simp only [List.all_eq_true, List.mem_range, Bool.and_eq_true, Bool.or_eq_true, bne_iff_ne, beq_iff_eq] at t
  rcases (t i h' n h m hm).1 with ((q | q) | q) | q
  · exact absurd z q
  · exact absurd z' q
  · exact absurd e q
  · exact q
theorem ls_inj {n m i : Nat} (h : n < 16) (hm : m < 16) (h' : i < 11) (e : ls n i = ls m i) : n &&& MK i = m &&& MK i := by
  have t := tab_inj
  simp only [List.all_eq_true, List.mem_range, Bool.and_eq_true, Bool.or_eq_true, bne_iff_ne, beq_iff_eq] at t
  rcases (t i h' n h m hm).2 with q | q
  · exact absurd e q
  · exact q
noncomputable def fillPat : IE := match fill.body with
  | .cons _ (.cons (.for _ _ (.cons (.ite _ (.cons (.asg _ _ _ e _) _) _ _) _) _) _) => e
  | _ => .none 0 ⟨0, 0, 0, 0⟩
theorem tab_pat : ((List.range 16).all fun n => (List.range 11).all fun i => eqO (ev Γ1 hG1 fillPat [none, some (.d (KI i)), none, some (.d (wd n)), none, none, none]) (.str (ps n i))) = true := by decide +kernel
theorem pat_at {n i : Nat} (h : n < 16) (h' : i < 11) (a c e f g : Option LV) : ev Γ1 hG1 fillPat [a, some (.d (KI i)), c, some (.d (wd n)), e, f, g] = some (pt n i) := by
  have t := tab_pat
  simp only [List.all_eq_true, List.mem_range] at t
  exact Eq.trans rfl (eqO_eq (t n h i h'))
noncomputable def fillP (nums : List Nat) (i n : Nat) : Bool := n &&& MK i == 0 && (nums.filter (hits n i)).length == 2 ^ (KL i).length
noncomputable def fillN (nums : List Nat) (i : Nat) : List Nat := nums.filter (fillP nums i)
theorem pow_len {i : Nat} (h : i < 11) : (binop .Pow (.int 2) (.int ((KL i).length : Int))) = some (.int ((2 ^ (KL i).length : Nat) : Int)) := by
  have t : ((List.range 11).all fun i => eqO (binop .Pow (.int 2) (.int ((KL i).length : Int))) (.int ((2 ^ (KL i).length : Nat) : Int))) = true := by decide +kernel
  simp only [List.all_eq_true, List.mem_range] at t
  exact eqO_eq (t i h)
theorem len_kind (i : Nat) : callB .len [KI i] = some (.int ((KL i).length : Int)) := len_map (by unfold KL; split <;> decide)
theorem lett1 {n i : Nat} (h : n < 16) (h' : i < 11) : Γ1 1 [wd n, KI i] = some (.str (ls n i)) := lett_at h h'
theorem lett1' {i : Nat} (h' : i < 11) : Γ1 1 [.str "abcd", KI i] = some (.str (ls 0 i)) := abcd ▸ lett_at (by decide) h'
theorem elli1 {n i m : Nat} (h : n < 16) (h' : i < 11) (hm : m < 16) (z : n &&& MK i = 0) : Γ1 2 [pt n i, wd m] = some (.bool (hits n i m)) := elli_at h h' hm z
theorem fill_at {nums : List Nat} {i : Nat} (hn : ∀ n ∈ nums, n < 16) (hl : nums.length ≤ 64) (hi : i < 11) : fillR [.list (nums.map wd), KI i] = some (.list ((fillN nums i).map (pt · i))) := by
  refine Xs.runF rfl ?_
  refine Xs.asgO rfl (show _ = some (PyData.list []) from rfl) ?_
  refine Xs.for (w := wd) (bs := nums) ?_ (fun pre σ => ∃ x y z t, σ = [some (.d (.list (nums.map wd))), some (.d (KI i)), some (.ml ((pre.filter (fillP nums i)).map (pt · i))), x, y, z, t]) ⟨none, none, none, none, rfl⟩ ?_ ?_
  · exact items_map hl
  · rintro pre n post e σ ⟨x, y, z, t, rfl⟩
    have hn' : n < 16 := hn n (e ▸ List.mem_append_right _ (List.mem_cons_self ..))
    have hpre : pre.length ≤ 64 := by have := congrArg List.length e; simp at this; omega
    have fpre : (pre ++ [n]).filter (fillP nums i) = pre.filter (fillP nums i) ++ if fillP nums i n then [n] else [] := by
      rw [List.filter_append, List.filter_cons]; rfl
    refine ⟨_, rfl, ?_⟩
    have q := ok_at hn' hi
    have q0 := ok_at (n := 0) (by decide) hi
    refine Xs.iteB (vw rfl <| ev_cmp (vw rfl <| ev_callF rfl (lett1 hn' hi)) (vw rfl <| ev_callF rfl (lett1' hi)) (eq_strs q.2.1 q0.2.1)) (fun c => ?_) (fun c => ?_)
    · rw [q.2.2.2.1] at c
      refine Xs.asg (pat_at hn' hi _ _ _ _ _) ?_
      refine Xs.iteB (vw rfl <| ev_cmp (vw rfl <| ev_call1 (vw rfl <| ev_comp (hits n i) (w := wd) (g := wd) (bs := nums) (items_map hl) fun m hm => ⟨_, rfl, evIfs_one (vw rfl <| ev_callF rfl (elli1 hn' hi (hn m hm) (eq_of_beq c))), fun _ => rfl⟩) (len_map (Nat.le_trans (List.length_filter_le _ _) hl))) (vw rfl <| ev_bin rfl (vw rfl <| ev_call1 rfl (len_kind i)) (pow_len hi)) (cmp_int _ _)) (fun c2 => ?_) (fun c2 => ?_)
      · have c2' : (nums.filter (hits n i)).length = 2 ^ (KL i).length := by exact_mod_cast eq_of_beq c2
        refine Xs.app rfl ?_ rfl ?_
        · rw [List.length_map]; exact Nat.le_trans (List.length_filter_le _ _) (Nat.le_trans hpre (by decide))
        · refine Xs.nil (Xs.nil (Xs.nil ⟨rfl, some (.d (wd n)), some (.d (pt n i)), z, t, ?_⟩))
          have : fillP nums i n = true := by simp only [fillP, c, c2', beq_self_eq_true, Bool.and_self]
          rw [fpre, this, List.map_append]; rfl
      · refine Xs.nil (Xs.nil (Xs.nil ⟨rfl, some (.d (wd n)), some (.d (pt n i)), z, t, ?_⟩))
        have : fillP nums i n = false := by
          have : ¬ (nums.filter (hits n i)).length = 2 ^ (KL i).length := fun e => by rw [e] at c2; simp at c2
          simp only [fillP, c, beq_eq_false_iff_ne.mpr this, Bool.and_false]
        rw [fpre, this]; simp only [List.append_nil, Bool.false_eq_true, if_false]; rfl
    · rw [q.2.2.2.1] at c
      refine Xs.nil (Xs.nil ⟨rfl, some (.d (wd n)), y, z, t, ?_⟩)
      have : fillP nums i n = false := by simp only [fillP, c, Bool.false_and]
      rw [fpre, this]; simp only [List.append_nil, Bool.false_eq_true, if_false]; rfl
  · rintro σ ⟨x, y, z, t, rfl⟩
    exact Xs.frzRet rfl rfl rfl
end L3
end Mine
end
section
open PySem PySem.W PySem.Calls PyProof.Rows
set_option Elab.async false
set_option maxRecDepth 100000
namespace Mine
namespace L3
noncomputable def hangN : Nat → List Nat → List Nat → Nat → Option Bool
  | 0, _, _, _ => none
  | n + 1, r, w, k => match r[k]? with
    | none => some w.isEmpty
    | some a => hangN n (r ++ w.filter (adj a)) (w.filter fun b => !adj a b) (k + 1)
theorem leve2 {n i m : Nat} (h : n < 16) (h' : i < 11) (hm : m < 16) (z : n &&& MK i = 0) (z' : m &&& MK i = 0) : ∃ d : Int, Γ2 4 [pt n i, pt m i, .int 1] = some (.int d) ∧ (d == 1) = adj n m := leve_at h h' hm z z'
theorem hang_at {l : List Nat} {i : Nat} {b : Bool} (hn : ∀ n ∈ l, n < 16 ∧ n &&& MK i = 0) (hl : l.length ≤ 64) (hi : i < 11) (hb : hangN 64 (l.take 1) (l.drop 1) 0 = some b) : hangR [.list (l.map (pt · i))] = some (.bool b) := by
  refine Xs.runF rfl ?_
  refine Xs.asg (slice_take 1 hl) ?_
  refine Xs.asg (slice_drop 1 hl) ?_
  refine Xs.asg rfl ?_
  refine Xs.whl (fun n σ => ∃ r w k x y z, hangN (n + 1) r w k = some b ∧ (∀ m ∈ r, m < 16 ∧ m &&& MK i = 0) ∧ (∀ m ∈ w, m < 16 ∧ m &&& MK i = 0) ∧ r.length + w.length ≤ 64 ∧ σ = [some (.d (.list (l.map (pt · i)))), some (.d (.list (r.map (pt · i)))), some (.d (.list (w.map (pt · i)))), some (.d (.int (k : Int))), x, y, z]) ?_ ⟨_, _, 0, none, none, none, hb, fun m h => hn m (List.mem_of_mem_take h), fun m h => hn m (List.mem_of_mem_drop h), by simp; omega, rfl⟩
  rintro n σ ⟨r, w, k, x, y, z, e, hr, hw, hlen, rfl⟩
  have hrl : r.length ≤ 64 := by omega
  have hwl : w.length ≤ 64 := by omega
  have cond : view (.cmp .Lt (.var "k" 3 ⟨218, 10, 218, 11⟩) (.callB .len ⟨218, 14, 218, 17⟩ (.cons (.var "reached" 1 ⟨218, 18, 218, 25⟩) .nil) ⟨218, 14, 218, 26⟩) ⟨218, 10, 218, 26⟩) [some (.d (.list (l.map (pt · i)))), some (.d (.list (r.map (pt · i)))), some (.d (.list (w.map (pt · i)))), some (.d (.int (k : Int))), x, y, z] (ev Γ2 hG1 (.cmp .Lt (.var "k" 3 ⟨218, 10, 218, 11⟩) (.callB .len ⟨218, 14, 218, 17⟩ (.cons (.var "reached" 1 ⟨218, 18, 218, 25⟩) .nil) ⟨218, 14, 218, 26⟩) ⟨218, 10, 218, 26⟩) [some (.d (.list (l.map (pt · i)))), some (.d (.list (r.map (pt · i)))), some (.d (.list (w.map (pt · i)))), some (.d (.int (k : Int))), x, y, z]) = some (.bool (decide (k < r.length))) :=
    vw rfl <| ev_cmp rfl (vw rfl <| ev_call1 rfl (len_map hrl)) (lt_int _ _)
  unfold hangN at e
  cases q : r[k]? with
  | none =>
    rw [q] at e
    refine .inl ⟨?_, ?_⟩
    · refine (congrArg (fun x => Option.bind x truth) cond).trans ?_
      have : ¬ k < r.length := by have := List.getElem?_eq_none_iff.mp q; omega
      rw [decide_eq_false this]; rfl
    · refine Xs.ret (ev_cmp rfl rfl (eq_nil (shaped_strs fun m hm => (ok_at (hw m hm).1 hi).2.2.1))) ?_
      cases e
      cases w <;> rfl
  | some a =>
    rw [q] at e
    have hk : k < r.length := (List.getElem?_eq_some_iff.mp q).1
    have ha := hr a (List.mem_of_getElem? q)
    refine .inr ⟨?_, ?_⟩
    · refine (congrArg (fun x => Option.bind x truth) cond).trans ?_
      rw [decide_eq_true hk]; rfl
    · cases n with
      | zero => cases e
      | succ n =>
        refine ⟨n, rfl, ?_⟩
        have hfw : w.length = (w.filter (adj a)).length + (w.filter fun b => !adj a b).length := len_split _ w
        refine Xs.asg (ev_comp (adj a) (w := (pt · i)) (g := (pt · i)) (bs := w) (items_map hwl) fun m hm => ⟨_, rfl, ?_, fun _ => rfl⟩) ?_
        · obtain ⟨d, e1, e2⟩ := leve2 ha.1 hi (hw m hm).1 ha.2 (hw m hm).2
          rw [← e2]
          exact evIfs_one (vw rfl <| ev_cmp (vw rfl <| ev_callF (evs_cons (ev_sub rfl rfl (get_map hrl q)) rfl) e1) rfl (cmp_int _ _))
        refine Xs.asg (ev_comp (fun b => !adj a b) (w := (pt · i)) (g := (pt · i)) (bs := w) (items_map hwl) fun m hm => ⟨_, rfl, ?_, fun _ => rfl⟩) ?_
        · have : (w.filter (adj a)).contains m = adj a m := by
            rw [Bool.eq_iff_iff, List.contains_iff_mem, List.mem_filter]
            exact ⟨fun h => h.2, fun h => ⟨hm, h⟩⟩
          rw [← this]
          have mem : ∀ x ∈ w.filter (adj a), x ∈ w := fun x h => (List.mem_filter.mp h).1
          exact evIfs_one (vw rfl <| ev_cmp rfl rfl (notIn_strs (f := (ps · i)) (fun x h => (ok_at (hw x (mem x h)).1 hi).2.2.1) ((ok_at (hw m hm).1 hi).2.2.1) fun x h => ps_inj (hw x (mem x h)).1 (hw m hm).1 hi (hw x (mem x h)).2 (hw m hm).2))
        refine Xs.asg (ev_bin rfl rfl (cat_map (by omega))) ?_
        refine Xs.asg (d := .int ((k + 1 : Nat) : Int)) (ev_bin rfl rfl rfl) ?_
        refine Xs.nil ⟨rfl, r ++ w.filter (adj a), w.filter (fun b => !adj a b), k + 1, _, _, _, e, ?_, ?_, ?_, rfl⟩
        · intro m hm
          rcases List.mem_append.mp hm with h | h
          · exact hr m h
          · exact hw m (List.mem_filter.mp h).1
        · exact fun m h => hw m (List.mem_filter.mp h).1
        · rw [List.length_append]; omega
end L3
end Mine
end
section
open PySem PySem.W PySem.Calls PyProof.Rows
set_option Elab.async false
set_option maxRecDepth 100000
namespace Mine
namespace L3
noncomputable def hent (n j : Nat) : PyData := .tuple [.str (ls n j), .str (ls n j)]
noncomputable def kvs (l : List Nat) : List PyData := l.flatMap fun n => (List.range 10).map (hent n)
theorem kvs_len : ∀ l : List Nat, (kvs l).length = 10 * l.length
  | [] => rfl
  | a :: r => by
    have := kvs_len r
    unfold kvs at this ⊢
    rw [List.flatMap_cons, List.length_append, this]; simp; omega
theorem tab_head : ((List.range 16).all fun n => (List.range 10).all fun j => cleanS (ls n j) && JoinOk "; " [ls n j] && Txt.join "; " [ls n j] == ls n j && eqO (meth .lower (.str (ls n j)) []) (.str (ls 0 j))) = true := by decide +kernel
theorem head_at {n j : Nat} (h : n < 16) (h' : j < 10) : cleanS (ls n j) = true ∧ JoinOk "; " [ls n j] = true ∧ Txt.join "; " [ls n j] = ls n j ∧ meth .lower (.str (ls n j)) [] = some (.str (ls 0 j)) := by
  have t := tab_head
  simp only [List.all_eq_true, List.mem_range, Bool.and_eq_true, beq_iff_eq] at t
  obtain ⟨⟨⟨a, b⟩, c⟩, d⟩ := t n h j h'
  exact ⟨a, b, c, eqO_eq d⟩
theorem tab_kind : ((List.range 10).all fun i => (List.range 10).all fun j => (ls 0 j == ls 0 i) == (j == i)) = true := by decide +kernel
theorem kind_at {i j : Nat} (h : i < 10) (h' : j < 10) : (ls 0 j == ls 0 i) = (j == i) := by
  have t := tab_kind
  simp only [List.all_eq_true, List.mem_range] at t
  exact eq_of_beq (t i h j h')
theorem addh_at {n j : Nat} {l : List PyData} (h : n < 16) (h' : j < 10) (hl : l.length ≤ 2000) : hG1.set "add_header" l [.str (ls n j), .str (ls n j)] = some (l ++ [hent n j], .none) := by
  have q := head_at h h'
  have hb : l.length ≤ bigN := Nat.le_trans hl (by decide)
  have : hG1.set "add_header" = addhSpec := by simp only [hG1, if_true]
  rw [this]
  simp only [addhSpec, q.1, q.2.1, q.2.2.1, decide_eq_true hb, Bool.and_self, if_true]; rfl
theorem gall_at {nums : List Nat} {i : Nat} (hn : ∀ n ∈ nums, n < 16) (hl : nums.length ≤ 64) (hi : i < 10) : hG1.get "get_all" (kvs nums) [.str (ls 0 i)] = some (.list (nums.map fun n => .str (ls n i))) := by
  have : hG1.get "get_all" = runList Γ0 hG0 gall.pre gall.cmp gall.pn gall.n := by simp only [hG1, if_true]
  rw [this]
  have q := head_at (n := 0) (by decide) hi
  have e2 : ev Γ0 hG0 gall.cmp [some (.hr 203 (kvs nums)), some (.d (.str (ls 0 i))), none] = some (.list (((nums.flatMap fun n => (List.range 10).map fun j => (n, j)).filter fun x => x.2 == i).map fun x => .str (ls x.1 x.2))) := by
    refine ev_comp (w := fun x : Nat × Nat => hent x.1 x.2) (fun x : Nat × Nat => x.2 == i) ?_ ?_
    · have hb : (kvs nums).length ≤ bigN := by rw [kvs_len]; exact Nat.le_trans (show 10 * nums.length ≤ 640 by omega) (by decide)
      show (if (kvs nums).length ≤ bigN then some (kvs nums) else none) = _
      rw [if_pos hb]
      congr 1
      unfold kvs
      rw [List.map_flatMap]
      simp only [List.map_map]; rfl
    · rintro ⟨n, j⟩ hm
      obtain ⟨n', hn', hj⟩ := List.mem_flatMap.mp hm
      obtain ⟨j', hj', e⟩ := List.mem_map.mp hj
      cases e
      have hj2 : j < 10 := List.mem_range.mp hj'
      have hn2 := hn n hn'
      refine ⟨_, rfl, ?_, fun _ => rfl⟩
      have c := eq_strs (ok_at (n := 0) (i := j) (by decide) (by omega)).2.1 (ok_at (n := 0) (i := i) (by decide) (by omega)).2.1
      rw [kind_at hi hj2] at c
      exact evIfs_one (vw rfl <| ev_cmp (vw rfl <| ev_meth0 (ev_sub (d := hent n j) (e := .int 0) rfl rfl rfl) (head_at hn2 hj2).2.2.2) rfl c)
  have e3 : ((nums.flatMap fun n => (List.range 10).map fun j => (n, j)).filter fun x => x.2 == i).map (fun x => PyData.str (ls x.1 x.2)) = nums.map fun n => .str (ls n i) := by
    have one : ∀ n : Nat, (((List.range 10).map fun j => (n, j)).filter fun x : Nat × Nat => x.2 == i) = [(n, i)] := by
      intro n
      rw [List.filter_map]
      have : ((List.range 10).filter ((fun x : Nat × Nat => x.2 == i) ∘ fun j => (n, j))) = [i] := by
        show (List.range 10).filter (fun j => j == i) = [i]
        have t : ∀ i < 10, (List.range 10).filter (fun j => j == i) = [i] := by decide
        exact t i hi
      rw [this]; rfl
    clear e2 hl hn
    induction nums with
    | nil => rfl
    | cons a r ih =>
      rw [List.flatMap_cons, List.filter_append, List.map_append, one, ih]; rfl
  rw [e3] at e2
  exact runList_asg rfl (ev_conv (hG := hG0) (kvs := kvs nums) rfl (ev_meth0 rfl q.2.2.2) q.1) e2 (by simp [flatD])
end L3
end Mine
end
section
open PySem PySem.W PySem.Calls PyProof.Rows
set_option Elab.async false
set_option maxRecDepth 100000
namespace Mine
namespace L3
noncomputable def dd (l : List Nat) : List Nat := l.foldl (fun acc m => if acc.contains m then acc else acc ++ [m]) []
theorem dd_snoc (l : List Nat) (m : Nat) : dd (l ++ [m]) = if (dd l).contains m then dd l else dd l ++ [m] := by
  unfold dd; rw [List.foldl_append]; rfl
theorem dd_len (l : List Nat) : (dd l).length ≤ l.length := by
  suffices h : ∀ (r acc : List Nat), (r.foldl (fun acc m => if acc.contains m then acc else acc ++ [m]) acc).length ≤ acc.length + r.length by
    have := h l []; simpa [dd] using this
  intro r
  induction r with
  | nil => intro acc; simp
  | cons a r ih =>
    intro acc
    rw [List.foldl_cons]
    refine Nat.le_trans (ih _) ?_
    split <;> simp <;> omega
theorem dd_mem {l : List Nat} {m : Nat} (h : m ∈ dd l) : m ∈ l := by
  suffices h : ∀ (r acc : List Nat), m ∈ (r.foldl (fun acc m => if acc.contains m then acc else acc ++ [m]) acc) → m ∈ acc ∨ m ∈ r by
    rcases h l [] ‹_› with q | q
    · cases q
    · exact q
  intro r
  induction r with
  | nil => intro acc h; exact .inl h
  | cons a r ih =>
    intro acc h
    rw [List.foldl_cons] at h
    rcases ih _ h with q | q
    · split at q
      · exact .inl q
      · rcases List.mem_append.mp q with q | q
        · exact .inl q
        · exact .inr (by simp only [List.mem_singleton] at q; subst q; exact List.mem_cons_self ..)
    · exact .inr (List.mem_cons_of_mem _ q)
noncomputable def showP (nums : List Nat) (i : Nat) : Bool := (dd (nums.map (· &&& MK i))).length == 2 ^ (KL i).length
noncomputable def KS : List PyData := (List.range 10).map KI
theorem and_lt {n i : Nat} (h : n < 16) : n &&& MK i < 16 := Nat.lt_of_le_of_lt Nat.and_le_left h
theorem show_at {nums : List Nat} (hn : ∀ n ∈ nums, n < 16) (hl : nums.length ≤ 64) : showR [.list (nums.map wd), .list KS] = some (.list (((List.range 10).filter (showP nums)).map KI)) := by
  refine Xs.runF rfl ?_
  refine Xs.step (σ' := [some (.d (.list (nums.map wd))), some (.d (.list KS)), some (.hd 203 none []), none, none, none, none, none]) rfl ?_
  refine Xs.for (w := wd) (bs := nums) (evit_e rfl (items_map hl)) (fun pre σ => ∃ x y, σ = [some (.d (.list (nums.map wd))), some (.d (.list KS)), some (.hd 203 none (kvs pre)), x, y, none, none, none]) ⟨none, none, rfl⟩ ?_ ?_
  · rintro pre n post e σ ⟨x, y, rfl⟩
    have hn' : n < 16 := hn n (e ▸ List.mem_append_right _ (List.mem_cons_self ..))
    have hpre : pre.length ≤ 64 := by have := congrArg List.length e; simp at this; omega
    refine ⟨_, rfl, ?_⟩
    refine Xs.for (w := KI) (bs := List.range 10) (evit_e rfl (items_map (by decide))) (fun js σ => ∃ y, σ = [some (.d (.list (nums.map wd))), some (.d (.list KS)), some (.hd 203 none (kvs pre ++ js.map (hent n))), some (.d (wd n)), y, none, none, none]) ⟨y, by rw [List.map_nil, List.append_nil]; rfl⟩ ?_ ?_
    · rintro js j post2 e2 σ ⟨y, rfl⟩
      have hj : j < 10 := List.mem_range.mp (e2 ▸ List.mem_append_right _ (List.mem_cons_self ..))
      have hjs : js.length ≤ 10 := by have := congrArg List.length e2; simp at this; omega
      refine ⟨_, rfl, ?_⟩
      have c := lett1 hn' (show j < 11 by omega)
      refine Xs.hcall (hG := hG1) (ad := none) (kvs := kvs pre ++ js.map (hent n)) rfl (evs_cons (ev_callF rfl c) (evs_cons (ev_callF rfl c) rfl)) (addh_at hn' hj (by rw [List.length_append, kvs_len, List.length_map]; omega)) ?_
      exact Xs.nil ⟨rfl, some (.d (KI j)), by rw [List.map_append, ← List.append_assoc]; rfl⟩
    · rintro σ ⟨y, rfl⟩
      refine Xs.nil ⟨rfl, some (.d (wd n)), y, ?_⟩
      unfold kvs
      rw [List.flatMap_append]
      simp only [List.flatMap_cons, List.flatMap_nil, List.append_nil]
  · rintro σ ⟨x, y, rfl⟩
    refine Xs.asgO rfl (show _ = some (PyData.list []) from rfl) ?_
    refine Xs.for (w := KI) (bs := List.range 10) (evit_e rfl (items_map (by decide))) (fun js σ => ∃ y z t, σ = [some (.d (.list (nums.map wd))), some (.d (.list KS)), some (.hd 203 none (kvs nums)), x, y, some (.ml ((js.filter (showP nums)).map KI)), z, t]) ⟨y, none, none, rfl⟩ ?_ ?_
    · rintro js j post2 e2 σ ⟨y, z, t, rfl⟩
      have hj : j < 10 := List.mem_range.mp (e2 ▸ List.mem_append_right _ (List.mem_cons_self ..))
      have hj' : j < 11 := by omega
      have hjs : js.length ≤ 10 := by have := congrArg List.length e2; simp at this; omega
      have fpre : (js ++ [j]).filter (showP nums) = js.filter (showP nums) ++ if showP nums j then [j] else [] := by
        rw [List.filter_append, List.filter_cons]; rfl
      refine ⟨_, rfl, ?_⟩
      refine Xs.asgO rfl (show _ = some (PyData.list []) from rfl) ?_
      refine Xs.for (w := fun n => .str (ls n j)) (bs := nums) (evit_e (ev_hmeth (hG := hG1) (kvs := kvs nums) rfl (evs_cons (ev_callF rfl (lett1' hj')) rfl) (gall_at hn hl hj)) (items_map hl)) (fun pre σ => ∃ t, σ = [some (.d (.list (nums.map wd))), some (.d (.list KS)), some (.hd 203 none (kvs nums)), x, some (.d (KI j)), some (.ml ((js.filter (showP nums)).map KI)), some (.ml ((dd (pre.map (· &&& MK j))).map fun m => .str (ls m j))), t]) ⟨t, rfl⟩ ?_ ?_
      · rintro pre n post e σ ⟨t, rfl⟩
        have hn' : n < 16 := hn n (e ▸ List.mem_append_right _ (List.mem_cons_self ..))
        have hpre : pre.length ≤ 64 := by have := congrArg List.length e; simp at this; omega
        have hpm : ∀ m ∈ pre, m < 16 := fun m h => hn m (e ▸ List.mem_append_left _ h)
        have hdm : ∀ m ∈ dd (pre.map (· &&& MK j)), m < 16 ∧ m &&& MK j = m := fun m h => by
          obtain ⟨a, ha, rfl⟩ := List.mem_map.mp (dd_mem h)
          exact ⟨and_lt (hpm a ha), by rw [Nat.and_assoc, Nat.and_self]⟩
        have hdl : (dd (pre.map (· &&& MK j))).length ≤ 64 := Nat.le_trans (dd_len _) (by rw [List.length_map]; exact hpre)
        have hsn : dd ((pre ++ [n]).map (· &&& MK j)) = if (dd (pre.map (· &&& MK j))).contains (n &&& MK j) then dd (pre.map (· &&& MK j)) else dd (pre.map (· &&& MK j)) ++ [n &&& MK j] := by
          rw [List.map_append]; exact dd_snoc _ _
        have hls : ls n j = ls (n &&& MK j) j := (ok_at hn' hj').2.2.2.2
        refine ⟨_, rfl, ?_⟩
        have c := notIn_strs (f := (ls · j)) (l := dd (pre.map (· &&& MK j))) (n := n &&& MK j) (fun m h => (ok_at (hdm m h).1 hj').2.1) (ok_at (and_lt hn') hj').2.1 (fun m h q => by
          have := ls_inj (hdm m h).1 (and_lt hn') hj' q
          rw [(hdm m h).2, Nat.and_assoc, Nat.and_self] at this
          exact this)
        refine Xs.iteB (vw rfl <| ev_cmp (d := .str (ls (n &&& MK j) j)) (by rw [← hls]; rfl) rfl c) (fun c2 => ?_) (fun c2 => ?_)
        · refine Xs.app rfl ?_ rfl ?_
          · rw [List.length_map]; exact Nat.le_trans hdl (by decide)
          · refine Xs.nil (Xs.nil ⟨rfl, some (.d (.str (ls n j))), ?_⟩)
            rw [hsn, if_neg (by simpa using c2), List.map_append]
            show [_, _, _, _, _, _, some (LV.ml (_ ++ [PyData.str (ls n j)])), _] = [_, _, _, _, _, _, some (LV.ml (_ ++ [PyData.str (ls (n &&& MK j) j)])), _]
            rw [hls]
        · refine Xs.nil (Xs.nil ⟨rfl, some (.d (.str (ls n j))), ?_⟩)
          rw [hsn, if_pos (by simpa using c2)]; rfl
      · rintro σ ⟨t, rfl⟩
        have hdl : (dd (nums.map (· &&& MK j))).length ≤ 64 := Nat.le_trans (dd_len _) (by rw [List.length_map]; exact hl)
        refine Xs.iteB (vw rfl <| ev_cmp (vw rfl <| ev_call1 rfl (len_map hdl)) (vw rfl <| ev_bin rfl (vw rfl <| ev_call1 rfl (len_kind j)) (pow_len hj')) (cmp_int _ _)) (fun c2 => ?_) (fun c2 => ?_)
        · have c2' : (dd (nums.map (· &&& MK j))).length = 2 ^ (KL j).length := by exact_mod_cast eq_of_beq c2
          refine Xs.app rfl ?_ rfl ?_
          · rw [List.length_map]; exact Nat.le_trans (List.length_filter_le _ _) (Nat.le_trans hjs (by decide))
          · refine Xs.nil (Xs.nil ⟨rfl, some (.d (KI j)), some (.ml ((dd (nums.map (· &&& MK j))).map fun m => .str (ls m j))), t, ?_⟩)
            have : showP nums j = true := by simp only [showP, c2', beq_self_eq_true]
            rw [fpre, this, List.map_append]; rfl
        · refine Xs.nil (Xs.nil ⟨rfl, some (.d (KI j)), some (.ml ((dd (nums.map (· &&& MK j))).map fun m => .str (ls m j))), t, ?_⟩)
          have : showP nums j = false := by
            have : ¬ (dd (nums.map (· &&& MK j))).length = 2 ^ (KL j).length := fun e => by rw [e] at c2; simp at c2
            simp only [showP, beq_eq_false_iff_ne.mpr this]
          rw [fpre, this]; simp only [List.append_nil, Bool.false_eq_true, if_false]
    · rintro σ ⟨y, z, t, rfl⟩
      exact Xs.frzRet rfl rfl rfl
end L3
end Mine
end
section
open PySem PySem.W PySem.Calls PyProof.Rows
set_option Elab.async false
set_option maxRecDepth 100000
namespace Mine
namespace L3
inductive Reach : Nat → List Nat → Prop where
  | zero : Reach 0 [0, 1]
  | skip {k l} : Reach k l → Reach (k + 1) l
  | add {k l s} : Reach k l → s < 16 → l.contains s = false → Reach (k + 1) (l ++ [s])
theorem Reach.facts {k l} (h : Reach k l) : l.length ≤ k + 2 ∧ 0 < l.length ∧ ∀ n ∈ l, n < 16 := by
  induction h with
  | zero => exact ⟨by decide, by decide, by decide⟩
  | skip _ ih => exact ⟨by omega, ih.2.1, ih.2.2⟩
  | add _ h _ ih =>
    refine ⟨by rw [List.length_append]; simp; omega, by rw [List.length_append]; simp, fun n hn => ?_⟩
    rcases List.mem_append.mp hn with q | q
    · exact ih.2.2 n q
    · simp only [List.mem_singleton] at q; omega
noncomputable def wrdsElt : IE := match wrds.body with
  | .cons _ (.cons _ (.cons (.ret (.comp e _ _ _ _ _ _) _) _)) => e
  | _ => .none 0 ⟨0, 0, 0, 0⟩
noncomputable def wrdsTail : ISs := match wrds.body with
  | .cons _ (.cons (.for _ _ (.cons _ (.cons _ t)) _) _) => t
  | _ => .nil
theorem tab_wd : ((List.range 16).all fun n => eqO (ev Γ0 hG0 wrdsElt [none, none, none, none, none, some (.d (inN n)), none]) (wd n)) = true := by decide +kernel
theorem wd_at {n : Nat} (h : n < 16) (a b c d e f : Option LV) : ev Γ0 hG0 wrdsElt [a, b, c, d, e, some (.d (inN n)), f] = some (wd n) := by
  have t := tab_wd
  simp only [List.all_eq_true, List.mem_range] at t
  exact Eq.trans rfl (eqO_eq (t n h))
theorem tab_xor : ((List.range 16).all fun a => (List.range 4).all fun k => eqO (binop .BitXor (inN a) (.int (1 * 2 ^ k))) (inN (a ^^^ 2 ^ k)) && decide (a ^^^ 2 ^ k < 16)) = true := by decide +kernel
theorem not_in_ints {l : List Nat} {n : Nat} : cmpop .NotIn (inN n) (.list (l.map inN)) = some (!l.contains n) := by
  refine notIn_data (fun x _ => ⟨by simp only [inN, PyData.canLay0], by simp [inN, PyData.depth]⟩) (shaped_int _) fun m _ => ?_
  simp only [inN, PyData.eqv]
  rw [Bool.eq_iff_iff, beq_iff_eq, beq_iff_eq]; omega
theorem wrds_at (ds : List Int) (hl : ds.length ≤ 10) : ∃ nums, Reach ds.length nums ∧ wrdsR [.list (ds.map .int)] = some (.list (nums.map wd)) := by
  suffices h : Xs Γ0 hG0 wrds.body (putMany wrds.pn [.list (ds.map .int)] (List.replicate wrds.n none)) fun fl _ => ∃ nums, Reach ds.length nums ∧ fl = .ret (.list (nums.map wd)) by
    obtain ⟨fl, σ', e, nums, r, rfl⟩ := h
    exact ⟨nums, r, Xs.runF rfl ⟨_, _, e, rfl⟩⟩
  refine Xs.asgO rfl (show _ = some (PyData.list [.int 0, .int 1]) from rfl) ?_
  refine Xs.for (w := PyData.int) (bs := ds) (evit_e rfl (items_map (by omega))) (fun pre σ => ∃ nums x y z, Reach pre.length nums ∧ σ = [some (.d (.list (ds.map .int))), some (.ml (nums.map inN)), x, y, z, none, none]) ⟨[0, 1], none, none, none, .zero, rfl⟩ ?_ ?_
  · rintro pre x post e σ ⟨nums, x0, y, z, r, rfl⟩
    have hpre : pre.length ≤ 10 := by have := congrArg List.length e; simp at this; omega
    obtain ⟨f1, f2, f3⟩ := r.facts
    have hml : nums.length ≤ 64 := by omega
    refine ⟨_, rfl, ?_⟩
    refine Xs.asg (d := .int (x.fdiv 3)) (ev_bin rfl rfl rfl) ?_
    have tail : ∀ s : Nat, s < 16 → Xs Γ0 hG0 wrdsTail [some (.d (.list (ds.map .int))), some (.ml (nums.map inN)), some (.d (.int x)), some (.d (.int (x.fdiv 3))), some (.d (inN s)), none, none] fun fl σ' => fl = .next ∧ ∃ nums a b c, Reach (pre ++ [x]).length nums ∧ σ' = [some (.d (.list (ds.map .int))), some (.ml (nums.map inN)), a, b, c, none, none] := by
      intro s hs
      refine Xs.iteB (vw rfl <| ev_cmp rfl rfl (not_in_ints (n := s))) (fun c => ?_) (fun c => ?_)
      · refine Xs.app rfl ?_ rfl ?_
        · rw [List.length_map]; exact Nat.le_trans hml (by decide)
        · refine Xs.nil (Xs.nil ⟨rfl, nums ++ [s], some (.d (.int x)), some (.d (.int (x.fdiv 3))), some (.d (inN s)), ?_, ?_⟩)
          · rw [List.length_append]; exact .add r hs (by simpa using c)
          · rw [List.map_append]; rfl
      · refine Xs.nil (Xs.nil ⟨rfl, nums, some (.d (.int x)), some (.d (.int (x.fdiv 3))), some (.d (inN s)), ?_, rfl⟩)
        rw [List.length_append]; exact .skip r
    have md : ∀ (a b : Int), 0 < b → ∃ m : Nat, a.fmod b = (m : Int) ∧ (m : Int) < b := fun a b hb => ⟨(a.fmod b).toNat, by
      have := Int.fmod_nonneg_of_pos a hb; omega, by
      have := Int.fmod_nonneg_of_pos a hb
      have := Int.fmod_lt_of_pos a hb; omega⟩
    refine Xs.iteB (vw rfl <| ev_cmp (vw rfl <| ev_bin (d := .int x) (e := .int 3) rfl rfl (show _ = some (PyData.int (x.fmod 3)) from rfl)) rfl (cmp_int _ _)) (fun c => ?_) (fun c => ?_)
    · obtain ⟨m, e1, e2⟩ := md (x.fdiv 3) 16 (by decide)
      refine Xs.asg (d := inN m) (ev_bin (d := .int (x.fdiv 3)) (e := .int 16) rfl rfl ?_) (Xs.nil (tail m (by omega)))
      show some (PyData.int ((x.fdiv 3).fmod 16)) = _
      rw [e1]; rfl
    · obtain ⟨m, e1, e2⟩ := md (x.fdiv 3) 4 (by decide)
      obtain ⟨q, e3, e4⟩ := md ((x.fdiv 3).fdiv 4) (nums.length : Int) (by omega)
      have hq : q < nums.length := by omega
      have hm : m < 4 := by omega
      have ha : nums[q] < 16 := f3 _ (List.getElem_mem hq)
      have t := tab_xor
      simp only [List.all_eq_true, List.mem_range, Bool.and_eq_true, decide_eq_true_eq] at t
      obtain ⟨t1, t2⟩ := t _ ha m hm
      have idx : binop .Mod (.int ((x.fdiv 3).fdiv 4)) (.int (nums.length : Int)) = some (.int (q : Int)) := by
        have : ((nums.length : Int) != 0) = true := bne_iff_ne.mpr (by omega)
        simp only [binop, onInts, this, if_true, e3]
      have sh : binop .LShift (.int 1) (.int (m : Int)) = some (.int (1 * 2 ^ m)) := by
        have : (smallI 1 && decide (0 ≤ (m : Int)) && decide ((m : Int) ≤ 64)) = true := by
          rw [decide_eq_true (show 0 ≤ (m : Int) by omega), decide_eq_true (show (m : Int) ≤ 64 by omega)]; decide
        simp only [binop, onInts, this, if_true, Int.toNat_natCast]
      have mm : binop .Mod (.int (x.fdiv 3)) (.int 4) = some (.int (m : Int)) := by
        show some (PyData.int ((x.fdiv 3).fmod 4)) = _
        rw [e1]
      refine Xs.asg (d := inN (nums[q] ^^^ 2 ^ m)) (ev_bin (vw rfl <| ev_sub rfl (ev_bin (vw rfl <| ev_bin rfl rfl (show _ = some (PyData.int ((x.fdiv 3).fdiv 4)) from rfl)) (vw rfl <| ev_call1 rfl (len_map hml)) idx) (get_map (f := inN) hml (List.getElem?_eq_getElem hq))) (vw rfl <| ev_bin rfl (vw rfl <| ev_bin rfl rfl mm) sh) (eqO_eq t1)) (Xs.nil (tail _ t2))
  · rintro σ ⟨nums, x, y, z, r, rfl⟩
    obtain ⟨f1, f2, f3⟩ := r.facts
    have hl' : nums.length ≤ 64 := by omega
    refine Xs.ret (d := .list (nums.map wd)) (ev_compA (w := inN) (g := wd) (bs := nums) (items_map hl') fun n hn => ⟨_, rfl, wd_at (f3 n hn) _ _ _ _ _ _⟩) ⟨nums, r, rfl⟩
end L3
end Mine
end
section
open PySem PySem.W PySem.Calls PyProof.Rows
set_option Elab.async false
set_option maxRecDepth 100000
namespace Mine
namespace L3
noncomputable def hangI (nums : List Nat) (j : Nat) : Option Bool := hangN 64 ((fillN nums j).take 1) ((fillN nums j).drop 1) 0
noncomputable def idx : List Nat := 10 :: List.range 10
noncomputable def shI (nums : List Nat) : List Nat := (List.range 10).filter (showP nums)
noncomputable def flI (nums : List Nat) : List Nat := (List.range 10).filter fun j => !((fillN nums j).map (pt · j)).isEmpty
noncomputable def flI' (nums : List Nat) : List Nat := (List.range 10).filter fun j => !(fillN nums j).isEmpty
noncomputable def tgI (nums : List Nat) : Bool := (idx.filter fun j => !(hangI nums j).getD false).isEmpty
noncomputable def lawB (nums : List Nat) : Bool :=
  (idx.all fun j => (hangI nums j).isSome) && ((flI' nums).filter fun i => !(shI nums).contains i).isEmpty && decide ((flI' nums).length + 1 ≤ nums.length) && decide (nums.length ≤ (shI nums).length + 1) && fillN nums 10 == nums
    && ((nums.length == (shI nums).length + 1) == tgI nums) && ((nums.length == (flI' nums).length + 1) == tgI nums)
noncomputable def allB : Nat → List Nat → Bool
  | 0, l => lawB l
  | k + 1, l => lawB l && (List.range 16).all fun s => l.contains s || allB k (l ++ [s])
theorem tab_all2 : allB 2 [0, 1, 2] = true := by decide +kernel
theorem tab_all3 : allB 2 [0, 1, 3] = true := by decide +kernel
theorem tab_all4 : allB 2 [0, 1, 4] = true := by decide +kernel
theorem tab_all5 : allB 2 [0, 1, 5] = true := by decide +kernel
theorem tab_all6 : allB 2 [0, 1, 6] = true := by decide +kernel
theorem tab_all7 : allB 2 [0, 1, 7] = true := by decide +kernel
theorem tab_all8 : allB 2 [0, 1, 8] = true := by decide +kernel
theorem tab_all9 : allB 2 [0, 1, 9] = true := by decide +kernel
theorem tab_all10 : allB 2 [0, 1, 10] = true := by decide +kernel
theorem tab_all11 : allB 2 [0, 1, 11] = true := by decide +kernel
theorem tab_all12 : allB 2 [0, 1, 12] = true := by decide +kernel
theorem tab_all13 : allB 2 [0, 1, 13] = true := by decide +kernel
theorem tab_all14 : allB 2 [0, 1, 14] = true := by decide +kernel
theorem tab_all15 : allB 2 [0, 1, 15] = true := by decide +kernel
theorem tab_all1 : lawB [0, 1] = true := by decide +kernel
theorem tab_alls : ∀ s, s < 16 → [0, 1].contains s = true ∨ allB 2 [0, 1, s] = true
  | 0, _ => .inl rfl
  | 1, _ => .inl rfl
  | 2, _ => .inr tab_all2
  | 3, _ => .inr tab_all3
  | 4, _ => .inr tab_all4
  | 5, _ => .inr tab_all5
  | 6, _ => .inr tab_all6
  | 7, _ => .inr tab_all7
  | 8, _ => .inr tab_all8
  | 9, _ => .inr tab_all9
  | 10, _ => .inr tab_all10
  | 11, _ => .inr tab_all11
  | 12, _ => .inr tab_all12
  | 13, _ => .inr tab_all13
  | 14, _ => .inr tab_all14
  | 15, _ => .inr tab_all15
  | s + 16, h => absurd h (by omega)
theorem tab_all : allB 3 [0, 1] = true := by
  unfold allB
  rw [Bool.and_eq_true]
  refine ⟨tab_all1, ?_⟩
  simp only [List.all_eq_true, List.mem_range, Bool.or_eq_true]
  exact tab_alls
theorem allB_law {k : Nat} {l : List Nat} (h : allB k l = true) : lawB l = true := by
  cases k with
  | zero => exact h
  | succ k => exact (Bool.and_eq_true_iff.mp h).1
theorem allB_mono : ∀ {k : Nat} {l : List Nat}, allB (k + 1) l = true → allB k l = true
  | 0, _, h => allB_law h
  | k + 1, l, h => by
    unfold allB at h ⊢
    rw [Bool.and_eq_true] at h ⊢
    refine ⟨h.1, ?_⟩
    have h2 := h.2
    simp only [List.all_eq_true, List.mem_range, Bool.or_eq_true] at h2 ⊢
    exact fun s hs => (h2 s hs).imp id allB_mono
theorem reach_all {k : Nat} {l : List Nat} (h : Reach k l) : k ≤ 3 → allB (3 - k) l = true := by
  induction h with
  | zero => exact fun _ => tab_all
  | @skip k l r ih =>
    intro hk
    have := ih (by omega)
    rw [show 3 - k = (3 - (k + 1)) + 1 by omega] at this
    exact allB_mono this
  | @add k l s r hs hc ih =>
    intro hk
    have := ih (by omega)
    rw [show 3 - k = (3 - (k + 1)) + 1 by omega] at this
    unfold allB at this
    have h2 := (Bool.and_eq_true_iff.mp this).2
    simp only [List.all_eq_true, List.mem_range, Bool.or_eq_true] at h2
    rcases h2 s hs with q | q
    · rw [hc] at q; cases q
    · exact q
end L3
end Mine
end
section
open PySem PySem.W PySem.Calls PyProof.Rows
set_option Elab.async false
set_option maxRecDepth 100000
namespace Mine
namespace L3
noncomputable def kindsE : IE := match law.body with
  | .cons _ (.cons (.asg _ _ _ e _) _) => e
  | _ => .none 0 ⟨0, 0, 0, 0⟩
theorem tab_kinds : eqO (ev Γ3 hG1 kindsE (List.replicate 14 none)) (.list KS) = true := by decide +kernel
theorem kinds_at (a b : Option LV) : ev Γ3 hG1 kindsE [a, b, none, none, none, none, none, none, none, none, none, none, none, none] = some (.list KS) := Eq.trans rfl (eqO_eq tab_kinds)
theorem tab_KI : ((List.range 11).all fun i => (KI i).canLay0 && decide ((KI i).depth ≤ 60) && (List.range 11).all fun j => PyData.eqv (KI j) (KI i) == (i == j)) = true := by decide +kernel
theorem KI_at {i : Nat} (h : i < 11) : (KI i).canLay0 = true ∧ (KI i).depth ≤ 60 ∧ ∀ j, j < 11 → PyData.eqv (KI j) (KI i) = (i == j) := by
  have t := tab_KI
  simp only [List.all_eq_true, List.mem_range, Bool.and_eq_true, decide_eq_true_eq] at t
  obtain ⟨⟨a, b⟩, c⟩ := t i h
  exact ⟨a, b, fun j hj => eq_of_beq (c j hj)⟩
theorem pt10 {n : Nat} (h : n < 16) : pt n 10 = wd n := by
  have t : ((List.range 16).all fun n => eqP (pt n 10) (wd n)) = true := by decide +kernel
  simp only [List.all_eq_true, List.mem_range] at t
  exact eqP_eq (t n h)
theorem shape_pts {l : List Nat} {j : Nat} (h : ∀ n ∈ l, n < 16) (hj : j < 11) : SeqAt.shaped (.list (l.map (pt · j))) = true := shaped_strs fun m hm => (ok_at (h m hm) hj).2.2.1
theorem range10 : rangeItems [.int ((List.range 10).length : Int)] = some ((List.range 10).map inN) := by
  have : ∀ o : Option (List PyData), (match o with | some l => eqPs l ((List.range 10).map inN) | none => false) = true → o = some ((List.range 10).map inN) := fun o h => by
    cases o with
    | none => cases h
    | some l => rw [eqPs_eq h]
  exact this _ (by decide +kernel)
theorem says {nums : List Nat} {ns : List Int} (hl : ns.length ≤ 63) (r : Reach (ns.take 3).length nums) (hw : wrdsR [.list ((ns.take 3).map .int)] = some (.list (nums.map wd))) (hB : lawB nums = true) : Says ns := by
  obtain ⟨f1, f2, f3⟩ := r.facts
  have hnl : nums.length ≤ 64 := by have : (ns.take 3).length ≤ 3 := by simp; omega; 
                                    omega
  have hfill : ∀ {j : Nat}, j < 11 → fillR [.list (nums.map wd), KI j] = some (.list ((fillN nums j).map (pt · j))) := fun hj => fill_at f3 hnl hj
  have hfm : ∀ {j m : Nat}, m ∈ fillN nums j → m < 16 ∧ m &&& MK j = 0 := fun h => by
    have := List.mem_filter.mp h
    refine ⟨f3 _ this.1, ?_⟩
    have q := this.2
    unfold fillP at q
    rw [Bool.and_eq_true] at q
    exact eq_of_beq q.1
  have hfl : ∀ j, (fillN nums j).length ≤ 64 := fun j => Nat.le_trans (List.length_filter_le _ _) hnl
  unfold lawB at hB
  simp only [Bool.and_eq_true, decide_eq_true_eq] at hB
  obtain ⟨⟨⟨⟨⟨⟨b1, b2⟩, b3⟩, b4⟩, b5⟩, b6⟩, b7⟩ := hB
  have b5' : fillN nums 10 = nums := eq_of_beq b5
  have hid : ∀ j ∈ idx, j < 11 := by decide
  suffices h : Xs Γ3 hG1 law.body (putMany law.pn [.list (ns.map .int)] (List.replicate law.n none)) fun fl _ => fl = .ret (.bool true) by
    obtain ⟨fl, σ', e, rfl⟩ := h
    exact ⟨σ', e⟩
  refine Xs.asg (ev_callF (Γ := Γ3) (f := 3) (ds := [.list ((ns.take 3).map .int)]) (evs_cons (slice_take 3 (show ns.length ≤ 64 by omega)) rfl) hw) ?_
  refine Xs.asg (kinds_at _ _) ?_
  refine Xs.asg (ev_callF (Γ := Γ3) (f := 5) rfl (show_at f3 hnl)) ?_
  refine Xs.asg (ev_compA (w := KI) (g := fun j => .list ((fillN nums j).map (pt · j))) (bs := List.range 10) (evit_e rfl (items_map (l := List.range 10) (f := KI) (by decide))) fun j hj => ⟨_, rfl, ev_callF (Γ := Γ3) (f := 6) rfl (hfill (by have := List.mem_range.mp hj; omega))⟩) ?_
  have get10 : ∀ {j : Nat}, j ∈ List.range 10 → (List.range 10)[j]? = some j := fun hj => by
    rw [List.getElem?_range (List.mem_range.mp hj)]
  refine Xs.asg (d := .list ((flI nums).map KI)) (ev_comp (fun j => !((fillN nums j).map (pt · j)).isEmpty) (w := inN) (g := KI) (bs := List.range 10) ?_ fun j hj => ⟨_, rfl, evIfs_one (vw rfl <| ev_cmp (vw rfl <| ev_sub rfl rfl (get_map (f := fun j => .list ((fillN nums j).map (pt · j))) (by decide) (get10 hj))) (vw rfl rfl) (ne_nil (shape_pts (fun n hn => (hfm hn).1) (by have := List.mem_range.mp hj; omega)))), fun _ => ev_sub rfl rfl (get_map (f := KI) (by decide) (get10 hj))⟩) ?_
  · refine evit_range (evs_cons (ev_call1 rfl (len_map (f := KI) (by decide))) rfl) range10
  have hfI : ∀ {j : Nat}, j ∈ flI nums → j < 10 := fun h => List.mem_range.mp (List.mem_filter.mp h).1
  have hsI : ∀ {j : Nat}, j ∈ shI nums → j < 10 := fun h => List.mem_range.mp (List.mem_filter.mp h).1
  have hfIl : (flI nums).length ≤ 64 := Nat.le_trans (List.length_filter_le _ _) (by decide)
  have hsIl : (shI nums).length ≤ 64 := Nat.le_trans (List.length_filter_le _ _) (by decide)
  have eqf : flI nums = flI' nums := by
    unfold flI flI'
    congr 1; funext j; cases fillN nums j <;> rfl
  rw [← eqf] at b2 b3 b7
  have c1 := ne_nil (l := ((flI nums).filter fun i => !(shI nums).contains i).map KI) (shaped_list fun y hy => by
    obtain ⟨j, hj, rfl⟩ := List.mem_map.mp hy
    have := KI_at (i := j) (by have := hfI (List.mem_filter.mp hj).1; omega)
    exact ⟨this.1, this.2.1⟩)
  have c1' : (((flI nums).filter fun i => !(shI nums).contains i).map KI).isEmpty = true := by rw [List.isEmpty_map]; exact b2
  rw [c1'] at c1
  refine Xs.iteB (vw rfl <| ev_cmp (vw rfl <| ev_comp (fun i => !(shI nums).contains i) (w := KI) (g := KI) (bs := flI nums) (evit_e rfl (items_map (f := KI) hfIl)) fun j hj => ⟨_, rfl, evIfs_one (vw rfl <| ev_cmp rfl rfl (notIn_data (f := KI) (l := shI nums) (n := j) (fun x hx => by have := KI_at (i := x) (by have := hsI hx; omega); exact ⟨this.1, this.2.1⟩) (by have := KI_at (i := j) (by have := hfI hj; omega); simp only [SeqAt.shaped, this.1, Bool.true_and, decide_eq_true_eq]; omega) fun m hm => (KI_at (by have := hfI hj; omega)).2.2 m (by have := hsI hm; omega))), fun _ => rfl⟩) (vw rfl rfl) c1) (fun c => nomatch c) (fun _ => Xs.nil ?_)
  have c2 := gt_int ((flI nums).length + 1) nums.length
  rw [decide_eq_false (by omega)] at c2
  have c3 := gt_int nums.length ((shI nums).length + 1)
  rw [decide_eq_false (by omega)] at c3
  refine Xs.iteB (vw rfl <| evB_or (ev_cmp (vw rfl <| ev_bin (vw rfl <| ev_call1 rfl (len_map (f := KI) hfIl)) rfl (add_int _ 1)) (vw rfl <| ev_call1 rfl (len_map hnl)) c2) (ev_cmp (vw rfl <| ev_call1 rfl (len_map hnl)) (vw rfl <| ev_bin (vw rfl <| ev_call1 rfl (len_map (f := KI) hsIl)) rfl (add_int _ 1)) c3)) (fun c => nomatch c) (fun _ => Xs.nil ?_)
  have w10 : (fillN nums 10).map (pt · 10) = nums.map wd := by
    rw [b5']; exact List.map_congr_left fun n hn => pt10 (f3 n hn)
  have c4 : cmpop .NotEq (.list ((fillN nums 10).map (pt · 10))) (.list (nums.map wd)) = some false := by
    have sh : SeqAt.shaped (.list (nums.map wd)) = true := shaped_strs (f := ws) fun n hn => (ok_at (i := 0) (f3 n hn) (by decide)).1
    have er : PyData.eqv (.list (nums.map wd)) (.list (nums.map wd)) = true := by
      simp only [PyData.eqv]
      exact eqvAll_refl fun x hx => by
        obtain ⟨n, _, rfl⟩ := List.mem_map.mp hx
        simp only [wd, PyData.eqv, beq_self_eq_true]
    rw [w10]
    show (if (SeqAt.shaped (.list (nums.map wd)) && SeqAt.shaped (.list (nums.map wd))) = true then some (!PyData.eqv (.list (nums.map wd)) (.list (nums.map wd))) else none) = _
    rw [sh, er]; rfl
  refine Xs.iteB (vw rfl <| ev_cmp (vw rfl <| ev_callF (Γ := Γ3) (f := 6) (evs_cons rfl (evs_cons rfl rfl)) (hfill (j := 10) (by decide))) rfl c4) (fun c => nomatch c) (fun _ => Xs.nil ?_)
  have hhang : ∀ {j : Nat}, j ∈ idx → hangR [.list ((fillN nums j).map (pt · j))] = some (.bool ((hangI nums j).getD false)) := fun {j} hj => by
    simp only [List.all_eq_true] at b1
    obtain ⟨b, hb⟩ := Option.isSome_iff_exists.mp (b1 j hj)
    rw [hb]
    exact hang_at (fun n hn => hfm hn) (hfl j) (hid j hj) hb
  have srow : SeqAt.shaped (.list ((idx.filter fun j => !(hangI nums j).getD false).map fun j => PyData.list ((fillN nums j).map (pt · j)))) = true := shaped_list fun y hy => by
    obtain ⟨j, hj, rfl⟩ := List.mem_map.mp hy
    have hj' := hid j (List.mem_filter.mp hj).1
    constructor
    · exact SeqAt.canLay_of_shaped (shape_pts (fun n hn => (hfm hn).1) hj')
    · have : PyData.depthAll ((fillN nums j).map (pt · j)) = 0 := by
        generalize fillN nums j = l
        induction l with
        | nil => simp only [List.map_nil, PyData.depthAll]
        | cons a r ih => simp only [List.map_cons, PyData.depthAll]; rw [ih]; simp only [pt, PyData.depth]; rfl
      simp only [PyData.depth, this]; omega
  refine Xs.asg (d := .bool (tgI nums)) (ev_cmp (vw rfl <| ev_comp (fun j => !(hangI nums j).getD false) (w := fun j => .list ((fillN nums j).map (pt · j))) (g := fun j => .list ((fillN nums j).map (pt · j))) (bs := idx) ?_ fun j hj => ⟨_, rfl, evIfs_one (vw rfl <| ev_notB (vw rfl <| ev_callF (Γ := Γ3) (f := 7) rfl (hhang hj))), fun _ => rfl⟩) (vw rfl rfl) ((eq_nil srow).trans (by rw [List.isEmpty_map]; rfl))) ?_
  · refine evit_e (d := .list (idx.map fun j => PyData.list ((fillN nums j).map (pt · j)))) (ev_bin (d := .list [.list (nums.map wd)]) (e := .list ((List.range 10).map fun j => PyData.list ((fillN nums j).map (pt · j)))) rfl rfl ?_) (items_map (l := idx) (by decide))
    show binop .Add (.list [.list (nums.map wd)]) (.list _) = some (.list (PyData.list ((fillN nums 10).map (pt · 10)) :: _))
    rw [w10]; rfl
  have e1 : (nums.length == (shI nums).length + 1) = tgI nums := eq_of_beq b6
  have e2 : (nums.length == (flI nums).length + 1) = tgI nums := eq_of_beq b7
  have cast : ∀ a b : Nat, ((a : Int) == (b : Int)) = (a == b) := fun a b => by rw [Bool.eq_iff_iff, beq_iff_eq, beq_iff_eq]; omega
  have g : ∀ (c : Nat), (nums.length == c + 1) = tgI nums → cmpop .Eq (.bool ((nums.length : Int) == ((c + 1 : Nat) : Int))) (.bool (tgI nums)) = some true := fun c h => by
    rw [cast, h, eq_bool]; simp
  exact Xs.ret (evB_and (ev_cmp (vw rfl <| ev_cmp (vw rfl <| ev_call1 rfl (len_map hnl)) (vw rfl <| ev_bin (vw rfl <| ev_call1 rfl (len_map (f := KI) hsIl)) rfl (add_int _ 1)) (cmp_int _ _)) rfl (g _ e1)) (ev_cmp (vw rfl <| ev_cmp (vw rfl <| ev_call1 rfl (len_map hnl)) (vw rfl <| ev_bin (vw rfl <| ev_call1 rfl (len_map (f := KI) hfIl)) rfl (add_int _ 1)) (cmp_int _ _)) rfl (g _ e2))) rfl
theorem main : PySem.Challenge.rw_pe0262_03.Holds := ent fun ns hl => by
  have h3 : (ns.take 3).length ≤ 3 := by simp; omega
  obtain ⟨nums, r, hw⟩ := wrds_at (ns.take 3) (by omega)
  exact says hl r hw (allB_law (reach_all r h3))
end L3
end Mine
end
end
theorem PySem.Challenge.cw_pe0262_03_holds : PySem.Challenge.rw_pe0262_03.Holds := by
  exact Mine.L3.main
