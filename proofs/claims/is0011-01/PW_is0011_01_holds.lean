import PyProof.Rows.All
import Wide.All
import OpenK.AllK
import Wide.FinOn
import Lean
import PySem.Challenge.RW_is0011_01
set_option Elab.async false
set_option genSizeOf false
set_option genInjectivity false

section
open PySem PySem.W PyProof.Rows
set_option Elab.async false
set_option maxRecDepth 100000
namespace Nor

/-- the mini values -/
inductive MV where
  | none
  | bool (b : Bool)
  | int (i : Int)
  | str (s : PySem.Str)
  | list (l : List MV)
  | am (s : PySem.Str) (i r : Int)
  | set (l : List PySem.Str)
  | self
  | range (a b c : Int)

noncomputable abbrev Fld := List (PySem.Str × MV)

noncomputable def get (x : PySem.Str) : Fld → Option MV
  | [] => .none
  | (y, v) :: r => bif y == x then some v else get x r
noncomputable def put (x : PySem.Str) (v : MV) : Fld → Fld
  | [] => [(x, v)]
  | (y, u) :: r => bif y == x then (x, v) :: r else (y, u) :: put x v r

structure St where
  ρ : Fld
  φ : Fld

inductive Out where
  | next
  | brk
  | ret (v : MV)
  | exc (c : PySem.Str)

noncomputable abbrev CallT := PySem.Str → List MV → Fld → Option (MV × Fld)
structure Tab where
  glob : PySem.Str → Option MV
  cls : PySem.Str → Option MV

noncomputable def big : Nat := 1000000
/-- an int that fits every test of sizes -/
noncomputable def fits (i : Int) : Bool := decide (-1000000000000 ≤ i) && decide (i ≤ 1000000000000)

noncomputable def truth : MV → Option Bool
  | .none => some false
  | .bool b => some b
  | .int i => some (i != 0)
  | .str s => some (s.length != 0)
  | .list l => some (!l.isEmpty)
  | _ => Option.none

noncomputable def chars (s : PySem.Str) : List MV := s.cps.toList.map fun c => .str ⟨#[c]⟩

noncomputable def strsOf : List MV → Option (List PySem.Str)
  | [] => some []
  | .str s :: r => (strsOf r).map (s :: ·)
  | _ => Option.none

noncomputable def cmpI (op : CmpOp) (x y : Int) : Option MV := match op with
  | .Eq => some (.bool (x == y))
  | .NotEq => some (.bool (x != y))
  | .Lt => some (.bool (decide (x < y)))
  | .LtE => some (.bool (decide (x ≤ y)))
  | .Gt => some (.bool (decide (y < x)))
  | .GtE => some (.bool (decide (y ≤ x)))
  | _ => Option.none
noncomputable def cmpS (op : CmpOp) (x y : PySem.Str) : Option MV := match op with
  | .Eq => some (.bool (x == y))
  | .NotEq => some (.bool (x != y))
  | _ => Option.none
noncomputable def cmpB (op : CmpOp) (x y : Bool) : Option MV := match op with
  | .Eq => some (.bool (x == y))
  | .NotEq => some (.bool (x != y))
  | _ => Option.none
noncomputable def inC (op : CmpOp) (b : Bool) : Option MV := match op with
  | .In => some (.bool b)
  | .NotIn => some (.bool !b)
  | _ => Option.none
noncomputable def cmpL (op : CmpOp) (x y : List MV) : Option MV := match op with
  | .Eq => (strsOf x).bind fun x => (strsOf y).map fun y => .bool (x == y)
  | _ => Option.none
noncomputable def cmpMV (op : CmpOp) (a b : MV) : Option MV := match a with
  | .int x => (match b with
    | .int y => cmpI op x y
    | _ => Option.none)
  | .str x => (match b with
    | .str y => cmpS op x y
    | .set l => inC op (l.contains x)
    | .list l => (strsOf l).bind fun l => inC op (l.contains x)
    | _ => Option.none)
  | .bool x => (match b with
    | .bool y => cmpB op x y
    | _ => Option.none)
  | .list x => (match b with
    | .list y => cmpL op x y
    | _ => Option.none)
  | _ => Option.none

/-- an operation's guard, and what it gives -/
noncomputable def binI (op : Operator) (x y : Int) : Option (Bool × MV) := match op with
  | .Add => some (true, .int (x + y))
  | .Sub => some (true, .int (x - y))
  | .Mult => some (fits x && fits y, .int (x * y))
  | .FloorDiv => some (!(y == 0), .int (x.fdiv y))
  | .Mod => some (!(y == 0), .int (x.fmod y))
  | .RShift => some (decide (0 ≤ y) && decide (y ≤ 60), .int (x.fdiv (2 ^ y.toNat)))
  | _ => Option.none
noncomputable def addO (op : Operator) (g : Bool) (v : MV) : Option (Bool × MV) := match op with
  | .Add => some (g, v)
  | _ => Option.none
noncomputable def binV (op : Operator) (a b : MV) : Option (Bool × MV) := match a with
  | .int x => (match b with
    | .int y => binI op x y
    | _ => Option.none)
  | .str x => (match b with
    | .str y => addO op (Nat.ble (x.length + y.length) big) (.str (x ++ y))
    | _ => Option.none)
  | .list x => (match b with
    | .list y => addO op (Nat.ble (x.length + y.length) big) (.list (x ++ y))
    | _ => Option.none)
  | _ => Option.none
noncomputable def binMV (op : Operator) (a b : MV) : Option MV := (binV op a b).bind fun r => bif r.1 then some r.2 else Option.none

noncomputable def idxMV (o i : MV) : Option MV := match i with
  | .int i => (match o with
    | .str s => bif decide (0 ≤ i) && decide (i < s.length) then some (.str ⟨#[s.cps.toList.getD i.toNat 0]⟩) else Option.none
    | .list l => bif decide (0 ≤ i) && decide (i < l.length) then l[i.toNat]? else Option.none
    | _ => Option.none)
  | _ => Option.none

/-- slices with bounds that are not negative -/
noncomputable def cut (α : Type) (l : List α) (a : Nat) (b : Option Nat) : List α := match b with
  | some b => (l.take b).drop a
  | Option.none => l.drop a
noncomputable def bnd : Option MV → Option (Option Nat)
  | Option.none => some Option.none
  | some (.int i) => bif decide (0 ≤ i) && fits i then some (some i.toNat) else Option.none
  | _ => Option.none
noncomputable def sliceMV (o : MV) (a b : Option MV) : Option MV := (bnd a).bind fun a => (bnd b).bind fun b => match o with
  | .str s => some (.str ⟨(cut Nat s.cps.toList (a.getD 0) b).toArray⟩)
  | .list l => some (.list (cut MV l (a.getD 0) b))
  | _ => Option.none

noncomputable def rangeL (a b c : Int) : List MV := bif decide (0 < c)
  then (List.range (b - a).toNat).map fun (k : Nat) => MV.int (a + (k : Int))
  else (List.range (a - b).toNat).map fun (k : Nat) => MV.int (a - (k : Int))

noncomputable def blt1 (f : PySem.Str) (x : MV) : Option MV := match x with
  | .str s => bif f == "len" then some (.int s.length) else bif f == "ord" && s.length == 1 then some (.int (s.cps.toList.getD 0 0 : Nat)) else Option.none
  | .list l => bif f == "len" then some (.int l.length) else Option.none
  | .int i => bif f == "chr" && decide (0 ≤ i) && decide (i ≤ 1000000) then some (.str ⟨#[i.toNat]⟩) else bif f == "range" && fits i then some (.range 0 i 1) else Option.none
  | _ => Option.none
noncomputable def blt2 (f : PySem.Str) (a b : Int) : Option MV := bif f == "min" then some (.int (if b < a then b else a)) else bif f == "max" then some (.int (if b > a then b else a)) else
  bif f == "range" && fits a && fits b then some (.range a b 1) else Option.none
noncomputable def blt3 (f : PySem.Str) (a b c : Int) : Option MV := bif f == "range" && fits a && fits b && c == -1 then some (.range a b c) else Option.none
noncomputable def int2 {R : Type} (x y : MV) (k : Int → Int → Option R) : Option R := match x with
  | .int a => (match y with
    | .int b => k a b
    | _ => Option.none)
  | _ => Option.none
noncomputable def int1 {R : Type} (x : MV) (k : Int → Option R) : Option R := match x with
  | .int a => k a
  | _ => Option.none
noncomputable def blt (f : PySem.Str) (as : List MV) : Option MV := match as with
  | [] => Option.none
  | x :: r => (match r with
    | [] => blt1 f x
    | y :: r => (match r with
      | [] => int2 x y (blt2 f)
      | z :: r => (match r with
        | [] => int2 x y fun a b => int1 z (blt3 f a b)
        | _ :: _ => Option.none)))
noncomputable def bltNames : List PySem.Str := ["len", "ord", "chr", "min", "max", "range"]

noncomputable def endsL (s y : List Nat) : Bool := decide (y.length ≤ s.length) && s.drop (s.length - y.length) == y
noncomputable def strMeth (s m : PySem.Str) (as : List MV) : Option MV := match as with
  | [] => Option.none
  | x :: r => (match r with
    | [] => (match x with
      | .str y => bif m == "endswith" then some (.bool (endsL s.cps.toList y.cps.toList)) else Option.none
      | _ => Option.none)
    | _ :: _ => Option.none)

noncomputable def amAttr (s : PySem.Str) (i r : Int) (a : PySem.Str) : Option MV :=
  bif a == "s" then some (.str s) else bif a == "substring_i" then some (.int i) else bif a == "result" then some (.int r) else Option.none

noncomputable def isSliceE : Expr → Bool
  | .Slice .. => true
  | _ => false
set_option genSizeOf false in
set_option genInjectivity false in
/-- a statement's view: the kinds that the walk knows -/
inductive SV where
  | pass
  | brk
  | retN
  | ret (e : Expr)
  | exp (e : Expr)
  | asgN (x : PySem.Str) (e : Expr)
  | asgA (c a : PySem.Str) (e : Expr)
  | augN (x : PySem.Str) (op : Operator) (e : Expr)
  | augA (c a : PySem.Str) (op : Operator) (e : Expr)
  | ifs (t : Expr) (b o : List Stmt)
  | whl (t : Expr) (b : List Stmt)
  | fors (x : PySem.Str) (it : Expr) (b : List Stmt)
  | rais (c : PySem.Str)
  | tri (b : List Stmt) (c : PySem.Str)
  | asrt (t : Expr)
  | oth
noncomputable def viewS : Stmt → SV
  | .Pass _ => .pass
  | .Break _ => .brk
  | .Return Option.none _ => .retN
  | .Return (some e) _ => .ret e
  | .Expr e _ => .exp e
  | .Assign [.Name x _] e _ => .asgN x e
  | .Assign [.Attribute (.Name c _) a _] e _ => .asgA c a e
  | .AugAssign (.Name x _) op e _ => .augN x op e
  | .AugAssign (.Attribute (.Name c _) a _) op e _ => .augA c a op e
  | .If t b o _ => .ifs t b o
  | .While t b [] _ => .whl t b
  | .For (.Name x _) it b [] _ => .fors x it b
  | .Raise (some (.Call (.Name c _) [] [] _)) Option.none _ => .rais c
  | .Try b [.ExceptHandler (some (.Name c _)) Option.none [.Pass _] _] [] [] _ => .tri b c
  | .Assert t Option.none _ => .asrt t
  | _ => .oth
noncomputable def SInv (st : Stmt) : SV → Prop
  | .pass => ∃ p, st = .Pass p
  | .brk => ∃ p, st = .Break p
  | .retN => ∃ p, st = .Return Option.none p
  | .ret e => ∃ p, st = .Return (some e) p
  | .exp e => ∃ p, st = .Expr e p
  | .asgN x e => ∃ p q, st = .Assign [.Name x p] e q
  | .asgA c a e => ∃ p q r, st = .Assign [.Attribute (.Name c p) a q] e r
  | .augN x op e => ∃ p q, st = .AugAssign (.Name x p) op e q
  | .augA c a op e => ∃ p q r, st = .AugAssign (.Attribute (.Name c p) a q) op e r
  | .ifs t b o => ∃ p, st = .If t b o p
  | .whl t b => ∃ p, st = .While t b [] p
  | .fors x it b => ∃ p q, st = .For (.Name x p) it b [] q
  | .rais c => ∃ p q r, st = .Raise (some (.Call (.Name c p) [] [] q)) Option.none r
  | .tri b c => ∃ p q r t, st = .Try b [.ExceptHandler (some (.Name c p)) Option.none [.Pass q] r] [] [] t
  | .asrt t => ∃ p, st = .Assert t Option.none p
  | .oth => True
set_option genSizeOf false in
set_option genInjectivity false in
/-- an expression's view -/
inductive EV where
  | const (c : Const)
  | name (x : PySem.Str)
  | attr (c a : PySem.Str)
  | cmp (l : Expr) (op : CmpOp) (r : Expr)
  | bool (op : PySem.BoolOp) (x y : Expr)
  | not (x : Expr)
  | neg (x : Expr)
  | bin (l : Expr) (op : Operator) (r : Expr)
  | ife (t b o : Expr)
  | slice (v : Expr) (lo hi : Option Expr)
  | sub (v i : Expr)
  | comp (x y g : PySem.Str) (sc : Scope)
  | list (es : List Expr)
  | callN (f : PySem.Str) (as : List Expr)
  | callM (o : Expr) (m : PySem.Str) (ap : Pos) (as : List Expr) (p : Pos)
  | oth
noncomputable def viewE : Expr → EV
  | .Constant c _ _ => .const c
  | .Name x _ => .name x
  | .Attribute (.Name c _) a _ => .attr c a
  | .Compare l [op] [r] _ => .cmp l op r
  | .BoolOp op [x, y] _ => .bool op x y
  | .UnaryOp .Not x _ => .not x
  | .UnaryOp .USub x _ => .neg x
  | .BinOp l op r _ => .bin l op r
  | .IfExp t b o _ => .ife t b o
  | .Subscript v (.Slice lo hi Option.none _) _ => .slice v lo hi
  | .Subscript v i _ => bif isSliceE i then .oth else .sub v i
  | .ListComp (.Name x _) [⟨.Name y _, .Name g _, [], 0⟩] sc _ => .comp x y g sc
  | .List es _ => .list es
  | .Call (.Name f _) as [] _ => .callN f as
  | .Call (.Attribute o m ap) as [] p => .callM o m ap as p
  | _ => .oth
noncomputable def EInv (e : Expr) : EV → Prop
  | .const c => ∃ k p, e = .Constant c k p
  | .name x => ∃ p, e = .Name x p
  | .attr c a => ∃ p q, e = .Attribute (.Name c p) a q
  | .cmp l op r => ∃ p, e = .Compare l [op] [r] p
  | .bool op x y => ∃ p, e = .BoolOp op [x, y] p
  | .not x => ∃ p, e = .UnaryOp .Not x p
  | .neg x => ∃ p, e = .UnaryOp .USub x p
  | .bin l op r => ∃ p, e = .BinOp l op r p
  | .ife t b o => ∃ p, e = .IfExp t b o p
  | .slice v lo hi => ∃ p q, e = .Subscript v (.Slice lo hi Option.none p) q
  | .sub v i => ∃ p, e = .Subscript v i p ∧ isSliceE i = false
  | .comp x y g sc => ∃ p q r t, e = .ListComp (.Name x p) [⟨.Name y q, .Name g r, [], 0⟩] sc t
  | .list es => ∃ p, e = .List es p
  | .callN f as => ∃ p q, e = .Call (.Name f p) as [] q
  | .callM o m ap as p => e = .Call (.Attribute o m ap) as [] p
  | .oth => True

theorem viewS_inv (st : Stmt) : SInv st (viewS st) := by
  cases st with
  | Pass p => exact ⟨p, rfl⟩
  | Break p => exact ⟨p, rfl⟩
  | Return o p => cases o with
    | none => exact ⟨p, rfl⟩
    | some e => exact ⟨p, rfl⟩
  | Expr e p => exact ⟨p, rfl⟩
  | Assign ts e q => cases ts with
    | nil => trivial
    | cons t r => cases r with
      | cons _ _ => cases t with
        | Attribute o _ _ => cases o <;> trivial
        | _ => trivial
      | nil => cases t with
        | Name x p => exact ⟨p, q, rfl⟩
        | Attribute o a q' => cases o with
          | Name c p => exact ⟨p, q', q, rfl⟩
          | _ => trivial
        | _ => trivial
  | AugAssign t op e q => cases t with
    | Name x p => exact ⟨p, q, rfl⟩
    | Attribute o a q' => cases o with
      | Name c p => exact ⟨p, q', q, rfl⟩
      | _ => trivial
    | _ => trivial
  | If t b o p => exact ⟨p, rfl⟩
  | While t b o p => cases o with
    | nil => exact ⟨p, rfl⟩
    | cons _ _ => trivial
  | For t it b o q => cases t with
    | Name x p => cases o with
      | nil => exact ⟨p, q, rfl⟩
      | cons _ _ => trivial
    | _ => trivial
  | Raise x c r => cases x with
    | none => trivial
    | some x => cases x with
      | Call f as ks q => cases f with
        | Name n p => cases as with
          | nil => cases ks with
            | nil => cases c with
              | none => exact ⟨p, q, r, rfl⟩
              | some _ => trivial
            | cons _ _ => trivial
          | cons _ _ => trivial
        | _ => trivial
      | _ => trivial
  | Try b hs o f t => cases hs with
    | nil => trivial
    | cons h hs => cases h with
      | ExceptHandler ty nm bd r => cases ty with
        | none => trivial
        | some ty => cases ty with
          | Name c p => cases nm with
            | some _ => trivial
            | none => cases bd with
              | nil => trivial
              | cons s bd => cases s with
                | Pass q => cases bd with
                  | cons _ _ => trivial
                  | nil => cases hs with
                    | cons _ _ => trivial
                    | nil => cases o with
                      | cons _ _ => trivial
                      | nil => cases f with
                        | cons _ _ => trivial
                        | nil => exact ⟨p, q, r, t, rfl⟩
                | _ => trivial
          | _ => trivial
  | Assert t m p => cases m with
    | none => exact ⟨p, rfl⟩
    | some _ => trivial
  | _ => trivial
theorem viewE_inv (e : Expr) : EInv e (viewE e) := by
  cases e with
  | Constant c k p => exact ⟨k, p, rfl⟩
  | Name x p => exact ⟨p, rfl⟩
  | Attribute o a q => cases o with
    | Name c p => exact ⟨p, q, rfl⟩
    | _ => trivial
  | Compare l ops rs p => cases ops with
    | nil => trivial
    | cons op ops => cases ops with
      | cons _ _ => trivial
      | nil => cases rs with
        | nil => trivial
        | cons r rs => cases rs with
          | cons _ _ => trivial
          | nil => exact ⟨p, rfl⟩
  | BoolOp op xs p => cases xs with
    | nil => trivial
    | cons x xs => cases xs with
      | nil => trivial
      | cons y xs => cases xs with
        | cons _ _ => trivial
        | nil => exact ⟨p, rfl⟩
  | UnaryOp op x p => cases op with
    | Not => exact ⟨p, rfl⟩
    | USub => exact ⟨p, rfl⟩
    | _ => trivial
  | BinOp l op r p => exact ⟨p, rfl⟩
  | IfExp t b o p => exact ⟨p, rfl⟩
  | Subscript v i q => cases i with
    | Slice lo hi st p => cases st with
      | none => exact ⟨p, q, rfl⟩
      | some _ => trivial
    | _ => exact ⟨q, rfl, rfl⟩
  | ListComp x gs sc t => cases x with
    | Name x p => cases gs with
      | nil => trivial
      | cons g gs => cases g with
        | mk a b c d => cases a with
          | Name y q => cases b with
            | Name g r => cases c with
              | cons _ _ => trivial
              | nil => cases d with
                | negSucc _ => trivial
                | ofNat d => cases d with
                  | succ _ => trivial
                  | zero => cases gs with
                    | cons _ _ => trivial
                    | nil => exact ⟨p, q, r, t, rfl⟩
            | _ => trivial
          | _ => trivial
    | _ => trivial
  | List es p => exact ⟨p, rfl⟩
  | Call f as ks q => cases f with
    | Name f p => cases ks with
      | nil => exact ⟨p, q, rfl⟩
      | cons _ _ => trivial
    | Attribute o m ap => cases ks with
      | nil => exact rfl
      | cons _ _ => trivial
    | _ => trivial
  | _ => trivial

noncomputable def turns : Nat := 64
noncomputable def depth : Nat := 30

section
variable (T : Tab) (Φ : CallT)

/-- many in turn -/
noncomputable def evL (ev : Fld → Expr → Option (MV × Fld)) : Fld → List Expr → Option (List MV × Fld)
  | φ, [] => some ([], φ)
  | φ, e :: r => (ev φ e).bind fun (v, φ') => (evL ev φ' r).map fun (vs, φ'') => (v :: vs, φ'')
noncomputable def evO (ev : Fld → Expr → Option (MV × Fld)) (φ : Fld) : Option Expr → Option (Option MV × Fld)
  | Option.none => some (Option.none, φ)
  | some e => (ev φ e).map fun (v, φ') => (some v, φ')

noncomputable def isGlob (ns : List (PySem.Str × NameKind)) (x : PySem.Str) : Bool := ns.lookup x == some .globalImplicit && !(x == "__debug__")
noncomputable def isLoc (ns : List (PySem.Str × NameKind)) (x : PySem.Str) : Bool := ns.lookup x == some .local && !(x == "__debug__")

noncomputable def fieldNames : List PySem.Str := ["current", "cursor", "limit", "limit_backward", "bra", "ket", "I_p1"]
noncomputable def isNameE : Expr → Bool
  | .Name .. => true
  | _ => false
noncomputable def isStrV : MV → Bool
  | .str _ => true
  | _ => false
/-- a comprehension's scope: its own name alone (told by the rule for it) -/
noncomputable def compFine (x : PySem.Str) (sc : Scope) : Bool := match sc.kind, sc.names with
  | .function, [(a, .local), (b, .local)] => a == ".0" && b == x && !(x == "__debug__")
  | _, _ => false
noncomputable def notSelf : List MV → Bool
  | .self :: _ => false
  | _ => true
/-- a test that is its value's truth -/
noncomputable def simpleT (e : Expr) : Bool := match viewE e with
  | .cmp .. | .name _ | .callN .. | .callM .. => true
  | .const (.bool true) => true
  | _ => false

noncomputable def constMV : Const → Option MV
  | .none => some .none
  | .bool b => some (.bool b)
  | .int i => some (.int i)
  | .str s => bif Nat.ble s.length big then some (.str s) else Option.none
  | _ => Option.none

/-- one step of a value, by its view -/
noncomputable def evV (ns : List (PySem.Str × NameKind)) (ρ : Fld) (ev : Fld → Expr → Option (MV × Fld)) (φ : Fld) (vw : EV) : Option (MV × Fld) := match vw with
  | .const c => (constMV c).map (·, φ)
  | .name x => bif isLoc ns x then (get x ρ).map (·, φ) else bif isGlob ns x then (T.glob x).map (·, φ) else Option.none
  | .attr c a =>
    bif isLoc ns c then (get c ρ).bind fun o => (match o with
        | .self => bif fieldNames.contains a then get a φ else Option.none
        | .am s i r => amAttr s i r a
        | _ => Option.none).map (·, φ)
    else bif isGlob ns c && c == "NorwegianStemmer" then (T.cls a).map (·, φ) else Option.none
  | .cmp l op r => bif behindInMarks op r then Option.none else (ev φ l).bind fun (a, φ1) => (ev φ1 r).bind fun (b, φ2) => (cmpMV op a b).map (·, φ2)
  | .bool op x y => (ev φ x).bind fun (a, φ1) => (truth a).bind fun b => bif (match op with | .And => b | .Or => !b) then ev φ1 y else some (a, φ1)
  | .not x => (ev φ x).bind fun (a, φ1) => (truth a).map fun b => (.bool (!b), φ1)
  | .neg x => (ev φ x).bind fun (a, φ1) => match a with
      | .int i => some (.int (-i), φ1)
      | _ => Option.none
  | .bin l op r => (ev φ l).bind fun (a, φ1) => (ev φ1 r).bind fun (b, φ2) => (binMV op a b).map (·, φ2)
  | .ife t b o => bif !simpleT t then Option.none else (ev φ t).bind fun (a, φ1) => (truth a).bind fun c => bif c then ev φ1 b else ev φ1 o
  | .slice v lo hi => (ev φ v).bind fun (o, φ1) => bif !isNameE v && !isStrV o then Option.none else (evO (ev) φ1 lo).bind fun (a, φ2) =>
      (evO (ev) φ2 hi).bind fun (b, φ3) => (sliceMV o a b).map (·, φ3)
  | .sub v i => (ev φ v).bind fun (o, φ1) => bif !isNameE v && !isStrV o then Option.none else (ev φ1 i).bind fun (j, φ2) => (idxMV o j).map (·, φ2)
  | .comp x y g sc => bif x == y && isGlob ns g && compFine x sc then (T.glob g).bind fun v => match v with
      | .str s => some (.list (chars s), φ)
      | _ => Option.none
    else Option.none
  | .list es => bif !Nat.ble es.length 1000 then Option.none else (evL (ev) φ es).map fun (vs, φ1) => (.list vs, φ1)
  | .callN f as => bif isGlob ns f && Nat.ble as.length 8 then
      (evL (ev) φ as).bind fun (vs, φ1) => bif bltNames.contains f then (blt f vs).map (·, φ1) else bif notSelf vs then Φ f vs φ1 else Option.none
    else Option.none
  | .callM o m ap as p => bif ap.endLine == p.line && Nat.ble as.length 8 && isNameE o then
      (ev φ o).bind fun (v, φ1) => (evL (ev) φ1 as).bind fun (vs, φ2) => match v with
        | .self => bif (get m φ1).isNone then Φ m (.self :: vs) φ2 else Option.none
        | .str s => (strMeth s m vs).map (·, φ2)
        | _ => Option.none
    else Option.none
  | .oth => Option.none
noncomputable def evE (ns : List (PySem.Str × NameKind)) (ρ : Fld) : Nat → Fld → Expr → Option (MV × Fld)
  | 0, _, _ => Option.none
  | n + 1, φ, e => evV T Φ ns ρ (evE ns ρ n) φ (viewE e)

noncomputable def evTs (ev : Fld → Expr → Option (Bool × Fld)) (op : PySem.BoolOp) : Fld → List Expr → Option (Bool × Fld)
  | φ, [] => some ((match op with | .And => true | .Or => false), φ)
  | φ, e :: r => (ev φ e).bind fun (b, φ') => bif (match op with | .And => b | .Or => !b) then evTs ev op φ' r else some (b, φ')
noncomputable def evT (ns : List (PySem.Str × NameKind)) (ρ : Fld) : Nat → Fld → Expr → Option (Bool × Fld)
  | 0, _, _ => Option.none
  | n + 1, φ, e => match e with
    | .BoolOp op es _ => evTs (evT ns ρ n) op φ es
    | .UnaryOp .Not x _ => (evT ns ρ n φ x).map fun (b, φ') => (!b, φ')
    | e => bif simpleT e then (evE T Φ ns ρ depth φ e).bind fun (v, φ') => (truth v).map (·, φ') else Option.none

/-- a field's store, while the fields are few -/
noncomputable def putF (x : PySem.Str) (v : MV) (φ : Fld) : Option Fld := bif fieldNames.contains x then some (put x v φ) else Option.none
/-- up to N turns -/
noncomputable def whileN (test : St → Option (Bool × St)) (body : St → Option (Out × St)) : Nat → St → Option (Out × St)
  | 0, _ => Option.none
  | N + 1, σ => (test σ).bind fun (b, σ1) => bif b then (body σ1).bind fun (o, σ2) => match o with
      | .next => whileN test body N σ2
      | .brk => some (.next, σ2)
      | o => some (o, σ2)
    else some (.next, σ1)
noncomputable def forL (x : PySem.Str) (body : St → Option (Out × St)) : List MV → St → Option (Out × St)
  | [], σ => some (.next, σ)
  | v :: r, σ => (body ⟨put x v σ.ρ, σ.φ⟩).bind fun (o, σ2) => match o with
      | .next => forL x body r σ2
      | .brk => some (.next, σ2)
      | .ret v => some (.ret v, σ2)
      | .exc _ => Option.none
noncomputable def itemsOf : MV → Option (List MV)
  | .list l => some l
  | .range a b c => bif fits a && fits b && (c == 1 || c == -1) then some (rangeL a b c) else Option.none
  | _ => Option.none

/-- what a statement's op= takes -/
noncomputable def augMV (op : Operator) (u v : MV) : Option MV := match op with
  | .Add => int2 u v fun x y => some (.int (x + y))
  | .Sub => int2 u v fun x y => some (.int (x - y))
  | _ => Option.none
noncomputable def labN : List PySem.Str := ["lab0", "lab1", "lab2"]
noncomputable def droppable : MV → Bool
  | .none | .bool _ | .int _ | .str _ => true
  | _ => false
noncomputable def isComp : Expr → Bool
  | .ListComp .. | .SetComp .. | .DictComp .. => true
  | _ => false

/-- one statement, by its view -/
noncomputable def exV (ns : List (PySem.Str × NameKind)) (ex : St → List Stmt → Option (Out × St)) (σ : St) (vw : SV) : Option (Out × St) := match vw with
  | .pass => some (Out.next, σ)
  | .brk => some (.brk, σ)
  | .retN => some (.ret .none, σ)
  | .ret e => (evE T Φ ns σ.ρ depth σ.φ e).map fun (v, φ) => (.ret v, ⟨σ.ρ, φ⟩)
  | .exp e => bif isComp e then Option.none else (evE T Φ ns σ.ρ depth σ.φ e).bind fun (v, φ) => bif droppable v then some (.next, ⟨σ.ρ, φ⟩) else Option.none
  | .asgN x e => bif isLoc ns x && !isComp e then (evE T Φ ns σ.ρ depth σ.φ e).map fun (v, φ) => (.next, ⟨put x v σ.ρ, φ⟩) else Option.none
  | .asgA c a e => bif isLoc ns c && !isComp e then (evE T Φ ns σ.ρ depth σ.φ e).bind fun (v, φ) => (get c σ.ρ).bind fun o => match o with
      | .self => (putF a v φ).map fun φ' => (.next, ⟨σ.ρ, φ'⟩)
      | _ => Option.none
    else Option.none
  | .augN x op e => bif isLoc ns x then (get x σ.ρ).bind fun u => (evE T Φ ns σ.ρ depth σ.φ e).bind fun (v, φ) => (augMV op u v).map fun r => (.next, ⟨put x r σ.ρ, φ⟩) else Option.none
  | .augA c a op e => bif isLoc ns c then (get c σ.ρ).bind fun o => match o with
      | .self => (get a σ.φ).bind fun u => (evE T Φ ns σ.ρ depth σ.φ e).bind fun (v, φ) => (augMV op u v).bind fun r => (putF a r φ).map fun φ' => (.next, ⟨σ.ρ, φ'⟩)
      | _ => Option.none
    else Option.none
  | .ifs t b o => (evT T Φ ns σ.ρ depth σ.φ t).bind fun (c, φ) => bif c then ex ⟨σ.ρ, φ⟩ b else ex ⟨σ.ρ, φ⟩ o
  | .whl t b => whileN (fun σ => (evT T Φ ns σ.ρ depth σ.φ t).map fun (c, φ) => (c, ⟨σ.ρ, φ⟩)) (fun σ => ex σ b) turns σ
  | .fors x it b => bif isLoc ns x then (evE T Φ ns σ.ρ depth σ.φ it).bind fun (v, φ) => (itemsOf v).bind fun l => forL x (fun σ => ex σ b) l ⟨σ.ρ, φ⟩ else Option.none
  | .rais c => bif isGlob ns c && labN.contains c then some (.exc c, σ) else Option.none
  | .tri b c => bif isGlob ns c && labN.contains c then (ex σ b).map fun (o, σ') => match o with
      | Out.exc c' => bif c' == c then (Out.next, σ') else (Out.exc c', σ')
      | o => (o, σ')
    else Option.none
  | .asrt t => (evT T Φ ns σ.ρ depth σ.φ t).bind fun (c, φ) => bif c then some (.next, ⟨σ.ρ, φ⟩) else Option.none
  | .oth => Option.none
noncomputable def exS (ns : List (PySem.Str × NameKind)) : Nat → St → List Stmt → Option (Out × St)
  | 0, _, _ => Option.none
  | _ + 1, σ, [] => some (.next, σ)
  | n + 1, σ, st :: rest => (exV T Φ ns (exS ns n) σ (viewS st)).bind fun (o, σ') => match o with
        | .next => exS ns n σ' rest
        | o => some (o, σ')
end

/-- a def's parts -/
structure Def where
  params : List PySem.Str
  names : List (PySem.Str × NameKind)
  body : List Stmt
noncomputable def defOfS (f : PySem.Str) : List Stmt → Option Def
  | [] => Option.none
  | .FunctionDef n a b _ _ _ sc _ _ _ :: r => bif n == f then some ⟨a.args.map (·.arg), sc.names, b⟩ else defOfS f r
  | _ :: r => defOfS f r
noncomputable def clsBody (c : PySem.Str) : List Stmt → List Stmt
  | [] => []
  | .ClassDef n _ _ b _ _ _ _ _ _ _ :: r => bif n == c then b else clsBody c r
  | _ :: r => clsBody c r
noncomputable abbrev prg : Program := PySem.Challenge.pw_is0011_01
noncomputable def methOf (f : PySem.Str) : Option Def := (defOfS f (clsBody "NorwegianStemmer" prg.main.body)).or (defOfS f (clsBody "BaseStemmer" prg.main.body))
noncomputable def defTab (f : PySem.Str) (m : Bool) : Option Def := bif m then methOf f else defOfS f prg.main.body

noncomputable def callN (T : Tab) : Nat → CallT
  | 0, _, _, _ => Option.none
  | l + 1, f, as, φ => (defTab f (match as with | .self :: _ => true | _ => false)).bind fun d => bif d.params.length == as.length then
      (exS T (callN T l) d.names depth ⟨d.params.zip as, φ⟩ d.body).bind fun (o, σ) => match o with
        | .ret v => some (v, σ.φ)
        | .next => some (.none, σ.φ)
        | _ => Option.none
    else Option.none
end Nor
end

section
open PySem PySem.W PyProof.Rows PySem.Calls
set_option Elab.async false
set_option maxRecDepth 100000
namespace Nor

theorem no_some {α : Type} {c : α} {P : Prop} (h : (Option.none : Option α) = some c) : P := by cases h

/-- what stands fast: the world, the heap at the law's start, its written part, the class, the stemmer and its dict -/
structure Fx where
  w : World
  H : Heap
  K : Frag
  mg : PySem.Str → Option Value
  mb : PySem.Str → Option Value
  C : Addr
  x : Addr
  dx : Addr
  am : Addr → PySem.Str → Int → Int → Prop
/-- a set of texts of the heap at the start -/
noncomputable def Fx.st (F : Fx) (a : Addr) (l : List PySem.Str) : Prop := ∃ n, F.H.SetOf (strKind prg F.w) a (fun k => l.contains k) n

mutual
/-- a value bears a mini value -/
inductive VR (F : Fx) (h : Heap) : Value → MV → Prop
  | none : VR F h .none .none
  | bool (b : Bool) : VR F h (.bool b) (.bool b)
  | int (i : Int) (t : Tok) : VR F h (.int i t) (.int i)
  | str (s : PySem.Str) (t : Tok) (z : s.length ≤ sizeLine) : VR F h (.str s t) (.str s)
  | list (a : Addr) (vs : List Value) (l : List MV) (i : h.IsList a vs.toArray) (z : l.length ≤ sizeLine) (r : VRs F h vs l) : VR F h (.ref a) (.list l)
  | am (a : Addr) (s : PySem.Str) (i r : Int) (k : F.am a s i r) : VR F h (.ref a) (.am s i r)
  | set (a : Addr) (l : List PySem.Str) (k : F.st a l) : VR F h (.ref a) (.set l)
  | self : VR F h (.ref F.x) .self
  | range (r : Addr) (a b c : Int) (t u v : Tok) (k : IsRange h r a b c t u v) : VR F h (.ref r) (.range a b c)
inductive VRs (F : Fx) (h : Heap) : List Value → List MV → Prop
  | nil : VRs F h [] []
  | cons {v : Value} {m : MV} {vs : List Value} {ms : List MV} (k : VR F h v m) (r : VRs F h vs ms) : VRs F h (v :: vs) (m :: ms)
end

/-- what a value that bears a mini value is -/
noncomputable def VRInv (F : Fx) (h : Heap) (u : Value) : MV → Prop
  | .none => u = .none
  | .bool b => u = .bool b
  | .int i => ∃ t, u = .int i t
  | .str s => ∃ t, u = .str s t ∧ s.length ≤ sizeLine
  | .list l => ∃ a vs, u = .ref a ∧ h.IsList a vs.toArray ∧ l.length ≤ sizeLine ∧ VRs F h vs l
  | .am s i r => ∃ a, u = .ref a ∧ F.am a s i r
  | .set l => ∃ a, u = .ref a ∧ F.st a l
  | .self => u = .ref F.x
  | .range a b c => ∃ r t t' t'', u = .ref r ∧ IsRange h r a b c t t' t''
theorem VR.inv {F : Fx} {h : Heap} {u : Value} {v : MV} (x : VR F h u v) : VRInv F h u v := by
  cases x with
  | none => exact rfl
  | bool b => exact rfl
  | int i t => exact ⟨t, rfl⟩
  | str s t z => exact ⟨t, rfl, z⟩
  | list a vs l i z r => exact ⟨a, vs, rfl, i, z, r⟩
  | am a s i r k => exact ⟨a, rfl, k⟩
  | set a l k => exact ⟨a, rfl, k⟩
  | self => exact rfl
  | range r a b c t u v k => exact ⟨r, t, u, v, rfl, k⟩

/-- all that stood stands, but for D; the frames' slots may turn -/
noncomputable def Kp (D fs : List Addr) (h h' : Heap) : Prop :=
  ∀ b o, h.get? b = some o → b ∉ D → (b ∉ fs → h'.get? b = some o) ∧ (b ∈ fs → ∃ sl, h'.get? b = some { o with slots := sl })
theorem Kp.refl (D fs : List Addr) (h : Heap) : Kp D fs h h := fun b o e _ => ⟨fun _ => e, fun _ => ⟨o.slots, e⟩⟩
theorem Kp.of_grow {D fs : List Addr} {h h' : Heap} (k : ∀ b o, h.get? b = some o → h'.get? b = some o) : Kp D fs h h' :=
  fun b o e _ => ⟨fun _ => k b o e, fun _ => ⟨o.slots, k b o e⟩⟩
theorem Kp.trans {D fs : List Addr} {h₁ h₂ h₃ : Heap} (x : Kp D fs h₁ h₂) (y : Kp D fs h₂ h₃) : Kp D fs h₁ h₃ := fun b o e n => by
  refine ⟨fun f => (y b o ((x b o e n).1 f) n).1 f, fun f => ?_⟩
  obtain ⟨sl, e'⟩ := (x b o e n).2 f
  obtain ⟨sl', e''⟩ := (y b _ e' n).2 f
  exact ⟨sl', e''⟩
/-- a frame that is no longer spoken of is among what may turn -/
theorem Kp.weaken {D D' fs fs' : List Addr} {h h' : Heap} (x : Kp D fs h h') (hD : ∀ b, b ∈ D → b ∈ D') (hf : ∀ b, b ∈ fs → b ∈ fs' ∨ b ∈ D') (hf' : ∀ b, b ∈ fs' → b ∈ fs ∨ b ∉ fs) : Kp D' fs' h h' := fun b o e n => by
  have q := x b o e (fun m => n (hD b m))
  constructor
  · intro f
    by_cases m : b ∈ fs
    · exact absurd (hf b m) (fun z => z.elim f n)
    · exact q.1 m
  · intro _
    by_cases m : b ∈ fs
    · exact q.2 m
    · exact ⟨o.slots, q.1 m⟩

theorem Kp.ns {D fs : List Addr} {h h' : Heap} (x : Kp D fs h h') {a : Addr} {m : PySem.Str → Option Value} (n : h.Ns a m) (hD : a ∉ D) : h'.Ns a m := by
  obtain ⟨o, es, ep, e, d, k, f⟩ := n
  by_cases m : a ∈ fs
  · obtain ⟨sl, e'⟩ := (x a o e hD).2 m
    exact ⟨_, es, ep, e', d, k, f⟩
  · exact ⟨o, es, ep, (x a o e hD).1 m, d, k, f⟩

theorem Kp.ns1 {D fs : List Addr} {h h' : Heap} (x : Kp D fs h h') {a : Addr} {m : PySem.Str → Option Value} (n : h.Ns1 a m) (hD : a ∉ D) : h'.Ns1 a m := by
  obtain ⟨o, es, ep, e, d, k, f⟩ := n
  by_cases m : a ∈ fs
  · obtain ⟨sl, e'⟩ := (x a o e hD).2 m
    exact ⟨_, es, ep, e', d, k, f⟩
  · exact ⟨o, es, ep, (x a o e hD).1 m, d, k, f⟩

/-- every address of the list holds a dict of names -/
noncomputable def Dicts (h : Heap) (l : List Addr) : Prop := ∀ b ∈ l, ∃ m, h.Ns b m
theorem Dicts.not {h : Heap} {l : List Addr} (d : Dicts h l) {a : Addr} {o : Obj} (e : h.get? a = some o) (n : ∀ es k, o.data ≠ .dict es k) : a ∉ l := fun m => by
  obtain ⟨_, o', es, ep, e', d', _⟩ := d a m
  rw [e] at e'; cases e'
  exact n _ _ d'

/-- no list, no range stands here -/
noncomputable def Mutb (h : Heap) (l : List Addr) : Prop := ∀ b ∈ l, ∀ o, h.get? b = some o → (∀ xs n, o.data ≠ .seq xs n) ∧ ¬ (o.cls = .type "range" ∧ ∃ vs, o.data = .fields vs)
theorem Dicts.mut {h : Heap} {l : List Addr} (d : Dicts h l) : Mutb h l := fun b m o e => by
  obtain ⟨_, o', es, ep, e', d', _⟩ := d b m
  rw [e] at e'; cases e'
  exact ⟨(fun xs n q => by rw [d'] at q; cases q), (fun ⟨_, vs, q⟩ => by rw [d'] at q; cases q)⟩
mutual
theorem VR.kpm {F : Fx} {D fs : List Addr} {h h' : Heap} (x : Kp D fs h h') (d : Mutb h (D ++ fs)) : ∀ {u : Value} {v : MV}, VR F h u v → VR F h' u v
  | _, _, .none => .none
  | _, _, .bool b => .bool b
  | _, _, .int i t => .int i t
  | _, _, .str s t z => .str s t z
  | _, _, .list a vs l i z r => by
    obtain ⟨o, e, c, n, q⟩ := i
    have na : a ∉ D ++ fs := fun m => (d a m o e).1 _ _ q
    refine .list a vs l ⟨o, (x a o e fun m => na (List.mem_append_left _ m)).1 fun m => na (List.mem_append_right _ m), c, n, q⟩ z (VRs.kpm x d r)
  | _, _, .am a s i r k => .am a s i r k
  | _, _, .set a l k => .set a l k
  | _, _, .self => .self
  | _, _, .range r a b c t u v k => by
    have na : r ∉ D ++ fs := fun m => (d r m _ k).2 ⟨rfl, _, rfl⟩
    exact .range r a b c t u v ((x r _ k fun m => na (List.mem_append_left _ m)).1 fun m => na (List.mem_append_right _ m))
theorem VRs.kpm {F : Fx} {D fs : List Addr} {h h' : Heap} (x : Kp D fs h h') (d : Mutb h (D ++ fs)) : ∀ {u : List Value} {v : List MV}, VRs F h u v → VRs F h' u v
  | _, _, .nil => .nil
  | _, _, .cons k r => .cons (VR.kpm x d k) (VRs.kpm x d r)
end
theorem VR.kp {F : Fx} {D fs : List Addr} {h h' : Heap} (x : Kp D fs h h') (d : Dicts h (D ++ fs)) {u : Value} {v : MV} (y : VR F h u v) : VR F h' u v := y.kpm x d.mut
theorem VRs.kp {F : Fx} {D fs : List Addr} {h h' : Heap} (x : Kp D fs h h') (d : Dicts h (D ++ fs)) {u : List Value} {v : List MV} (y : VRs F h u v) : VRs F h' u v := y.kpm x d.mut

theorem VRs.length {F : Fx} {h : Heap} : ∀ {u : List Value} {v : List MV}, VRs F h u v → u.length = v.length
  | _, _, .nil => rfl
  | _, _, .cons _ r => by rw [List.length_cons, List.length_cons, r.length]

/-- the heap, as a call finds it: the frames that stand (fs), the stemmer's fields -/
structure InvC (F : Fx) (fs : List Addr) (φ : Fld) (h : Heap) : Prop where
  base : F.H.StaysIn h
  inst : h.get? F.x = some (instObj F.C F.dx)
  dict : ∃ m, h.Ns1 F.dx m ∧ (∀ a, a ∉ fieldNames → m a = Option.none) ∧ ∀ a, (∀ v, get a φ = some v → ∃ u, m a = some u ∧ VR F h u v) ∧ (get a φ = Option.none → m a = Option.none)
  fr : Dicts h fs
  nd : F.dx ∉ fs
  old : ∀ b ∈ F.dx :: fs, F.H.get? b = Option.none

/-- the frame's locals -/
noncomputable def Loc (F : Fx) (L : Addr) (ρ : Fld) (h : Heap) : Prop := ∃ m, h.Ns L m ∧ ∀ y v, get y ρ = some v → ∃ u, m y = some u ∧ VR F h u v

theorem InvC.dicts {F : Fx} {fs : List Addr} {φ : Fld} {h : Heap} (I : InvC F fs φ h) : Dicts h ([F.dx] ++ fs) := fun b m => by
  rcases List.mem_append.mp m with m | m
  · obtain rfl := List.mem_singleton.mp m
    exact ⟨_, I.dict.choose_spec.1.ns⟩
  · exact I.fr b m

theorem Kp.base {F : Fx} {fs : List Addr} {φ : Fld} {h h' : Heap} (I : InvC F fs φ h) (x : Kp [F.dx] fs h h') : F.H.StaysIn h' := fun b o e => by
  have nb : b ∉ F.dx :: fs := fun m => by rw [I.old b m] at e; cases e
  exact (x b o (I.base b o e) fun m => nb (by rw [List.mem_singleton.mp m]; exact .head _)).1 fun m => nb (.tail _ m)

/-- nothing of the stemmer's turned -/
theorem InvC.grow {F : Fx} {fs : List Addr} {φ : Fld} {h h' : Heap} (I : InvC F fs φ h) (k : ∀ b o, h.get? b = some o → h'.get? b = some o) : InvC F fs φ h' := by
  have x : Kp [] (F.dx :: fs) h h' := Kp.of_grow k
  have d : Dicts h ([] ++ (F.dx :: fs)) := I.dicts
  obtain ⟨m, n, f0, f⟩ := I.dict
  exact ⟨fun b o e => k b o (I.base b o e), k _ _ I.inst, ⟨m, x.ns1 n (fun q => nomatch q), f0, fun a => ⟨fun v e => let ⟨u, p, q⟩ := (f a).1 v e; ⟨u, p, q.kp x d⟩, (f a).2⟩⟩,
    fun b q => let ⟨m, n⟩ := I.fr b q; ⟨m, x.ns n (fun q => nomatch q)⟩, I.nd, I.old⟩

theorem Loc.kpm {F : Fx} {L : Addr} {ρ : Fld} {h h' : Heap} {D fs : List Addr} (l : Loc F L ρ h) (x : Kp D fs h h') (d : Mutb h (D ++ fs)) (n : L ∉ D) : Loc F L ρ h' := by
  obtain ⟨m, a, b⟩ := l
  exact ⟨m, x.ns a n, fun y v e => let ⟨u, p, q⟩ := b y v e; ⟨u, p, q.kpm x d⟩⟩
theorem Loc.kp {F : Fx} {L : Addr} {ρ : Fld} {h h' : Heap} {D fs : List Addr} (l : Loc F L ρ h) (x : Kp D fs h h') (d : Dicts h (D ++ fs)) (n : L ∉ D) : Loc F L ρ h' := by
  obtain ⟨m, a, b⟩ := l
  exact ⟨m, x.ns a n, fun y v e => let ⟨u, p, q⟩ := b y v e; ⟨u, p, q.kp x d⟩⟩

/-- a statement's view -/
structure Inv (F : Fx) (L : Addr) (fs : List Addr) (ρ φ : Fld) (h : Heap) : Prop where
  c : InvC F (L :: fs) φ h
  l : Loc F L ρ h
  nL : L ∉ fs

theorem Inv.grow {F : Fx} {L : Addr} {fs : List Addr} {ρ φ : Fld} {h h' : Heap} (I : Inv F L fs ρ φ h) (k : ∀ b o, h.get? b = some o → h'.get? b = some o) : Inv F L fs ρ φ h' :=
  ⟨I.c.grow k, I.l.kp (D := []) (fs := F.dx :: L :: fs) (Kp.of_grow k) I.c.dicts (fun q => nomatch q), I.nL⟩

/-- what a run leaves alone beside the heap -/
noncomputable def Sm (s s' : Shared) : Prop := s'.gens = s.gens ∧ s'.os = s.os
theorem Sm.refl (s : Shared) : Sm s s := ⟨rfl, rfl⟩
theorem Sm.trans {a b c : Shared} (x : Sm a b) (y : Sm b c) : Sm a c := ⟨y.1.trans x.1, y.2.trans x.2⟩

/-- the frame at hand -/
structure EnvOk (env : Env) (ns : List (PySem.Str × NameKind)) (L : Addr) : Prop where
  kind : env.scope.kind = .function
  names : env.scope.names = ns
  loc : env.locals = L
  glob : env.globals = mainGlobals
  blt : env.builtins = builtinsNs
  frame : env.frame = some L
  gen : env.scope.isGenerator = false
  co : env.scope.isCoroutine = false

/-- the activations around -/
structure Ard (A : Around) (envs : List Env) (fs : List Addr) : Prop where
  none : A.handled = Option.none
  fra : A.frames = some envs
  fr : envs.map (·.frame) = fs.map some
  kind : ∀ e ∈ envs, e.scope.kind = .function
noncomputable def Room (A : Around) (k : Nat) : Prop := A.depth + 2 * k + 104 < recursionLimit ∧ A.units + 40 * k + 40 < cLine
end Nor
end

section
open PySem PySem.W PyProof.Rows PySem.Calls
set_option Elab.async false
set_option maxRecDepth 100000
namespace Nor

/-- only new objects -/
noncomputable def Gr (s s' : Shared) : Prop := (∀ b o, s.heap.get? b = some o → s'.heap.get? b = some o) ∧ Sm s s'
theorem Gr.refl (s : Shared) : Gr s s := ⟨fun _ _ e => e, Sm.refl s⟩
theorem Gr.tok (s : Shared) (k : Tok) : Gr s { s with toks := k } := ⟨fun _ _ e => e, rfl, rfl⟩
theorem Gr.push (s : Shared) (o : Obj) : Gr s { s with heap := s.heap.push o } := ⟨fun _ _ e => Heap.get?_push_of_some _ e, rfl, rfl⟩
theorem Gr.trans {a b c : Shared} (x : Gr a b) (y : Gr b c) : Gr a c := ⟨fun b o e => y.1 b o (x.1 b o e), x.2.trans y.2⟩
theorem VR.gr {F : Fx} {s s' : Shared} (g : Gr s s') {u : Value} {v : MV} (x : VR F s.heap u v) : VR F s'.heap u v :=
  x.kp (D := []) (fs := []) (Kp.of_grow g.1) (fun _ m => nomatch m)
theorem VRs.gr {F : Fx} {s s' : Shared} (g : Gr s s') {u : List Value} {v : List MV} (x : VRs F s.heap u v) : VRs F s'.heap u v :=
  x.kp (D := []) (fs := []) (Kp.of_grow g.1) (fun _ m => nomatch m)

theorem sizeLine_big : big ≤ sizeLine := by decide

/-! pure facts of slices -/
theorem range_pick {α : Type} (xs : Array α) (a b : Nat) :
    ((List.range (b - a)).map (a + ·)).filterMap (xs[·]?) = (xs.toList.take b).drop a := by
  rw [pick_run, List.drop_take]
theorem bound_nat (a n : Nat) : (max (0 : Int) (min (if (a : Int) < 0 then (a : Int) + (n : Int) else (a : Int)) (n : Int))) = ((min a n : Nat) : Int) := by
  rw [if_neg (Int.not_lt.mpr (Int.natCast_nonneg a))]
  omega
theorem indices_cut (a : Nat) (b : Option Nat) (lo : Option Int) (h : lo = Option.none ∧ a = 0 ∨ lo = some (a : Int)) (n : Nat) :
    Builtin.Str.strSliceIndices lo (b.map Int.ofNat) 1 n = (List.range (min (b.getD n) n - min a n)).map (min a n + ·) := by
  have key : ∀ p q : Nat, sliceRange (p : Int) (q : Int) 1 = (List.range (q - p)).map (p + ·) := sliceRange_one
  unfold Builtin.Str.strSliceIndices
  rcases h with ⟨rfl, rfl⟩ | rfl <;> cases b with
  | none =>
    simp only [Option.map_none, Option.getD_none, show (1 : Int) > 0 by decide, if_true]
    first
      | (rw [show (0 : Int) = ((0 : Nat) : Int) from rfl, key]; simp)
      | (rw [bound_nat a n, key]; simp)
  | some b =>
    simp only [Option.map_some, Option.getD_some, show (1 : Int) > 0 by decide, if_true]
    have e2 : (max (0 : Int) (min (if Int.ofNat b < 0 then Int.ofNat b + (n : Int) else Int.ofNat b) (n : Int))) = ((min b n : Nat) : Int) := bound_nat b n
    rw [e2]
    first
      | (rw [show (0 : Int) = ((0 : Nat) : Int) from rfl, key]; simp)
      | (rw [bound_nat a n, key])
theorem cut_take {α : Type} (l : List α) (a : Nat) (b : Option Nat) : (l.take (min (b.getD l.length) l.length)).drop (min a l.length) = cut α l a b := by
  unfold cut
  cases b with
  | none =>
    simp only [Option.getD_none, Nat.min_self, List.take_length]
    by_cases h : a ≤ l.length
    · rw [Nat.min_eq_left h]
    · rw [Nat.min_eq_right (by omega), List.drop_eq_nil_of_le (Nat.le_refl _), List.drop_eq_nil_of_le (by omega)]
  | some b =>
    simp only [Option.getD_some]
    rw [show l.take (min b l.length) = l.take b by
      by_cases h : b ≤ l.length
      · rw [Nat.min_eq_left h]
      · rw [Nat.min_eq_right (by omega), List.take_length, List.take_of_length_le (by omega)]]
    by_cases h : a ≤ l.length
    · rw [Nat.min_eq_left h]
    · rw [Nat.min_eq_right (by omega), List.drop_eq_nil_of_le (by rw [List.length_take]; omega), List.drop_eq_nil_of_le (by rw [List.length_take]; omega)]
theorem slice_cut (x : PySem.Str) (a : Nat) (b : Option Nat) (lo : Option Int) (h : lo = Option.none ∧ a = 0 ∨ lo = some (a : Int)) :
    Txt.slice x lo (b.map Int.ofNat) = ⟨(cut Nat x.cps.toList a b).toArray⟩ := by
  have e : ((Builtin.Str.strSliceIndices lo (b.map Int.ofNat) 1 x.length).filterMap (x.cps[·]?)) = cut Nat x.cps.toList a b := by
    rw [indices_cut a b lo h]
    refine (range_pick x.cps _ _).trans ?_
    have : x.length = x.cps.toList.length := by simp [PySem.Str.length]
    rw [this]; exact cut_take _ _ _
  unfold Txt.slice
  split
  · rename_i q
    simp only [beq_self_eq_true, Bool.true_and, beq_iff_eq] at q
    have l1 : (cut Nat x.cps.toList a b).length = x.cps.toList.length := by
      rw [← e, indices_cut a b lo h]
      refine (congrArg List.length (range_pick x.cps _ _)).trans ?_
      rw [indices_cut a b lo h] at q
      simp only [List.length_map, List.length_range] at q
      have : x.length = x.cps.size := rfl
      simp only [List.length_drop, List.length_take, Array.length_toList]
      omega
    have l2 : cut Nat x.cps.toList a b = x.cps.toList := by
      unfold cut at l1 ⊢
      cases b with
      | none =>
        simp only [List.length_drop] at l1
        by_cases z : a = 0
        · simp [z]
        · have : x.cps.toList.length = 0 := by omega
          rw [List.eq_nil_of_length_eq_zero this]; simp
      | some b =>
        simp only [List.length_drop, List.length_take] at l1
        by_cases z : x.cps.toList.length = 0
        · rw [List.eq_nil_of_length_eq_zero z]; simp
        · show List.drop a (List.take b x.cps.toList) = x.cps.toList
          rw [List.take_of_length_le (by omega), show a = 0 by omega]; rfl
    rw [l2]
  · rw [e]
theorem pick_cut (items : List Value) (a : Nat) (b : Option Nat) (lo : Option Int) (h : lo = Option.none ∧ a = 0 ∨ lo = some (a : Int)) :
    slicePick items.toArray lo (b.map Int.ofNat) Option.none = (cut Value items a b).toArray := by
  have e := indices_cut a b lo h items.toArray.size
  unfold slicePick
  rw [show sliceRange (sliceBounds lo (b.map Int.ofNat) Option.none items.toArray.size).1 (sliceBounds lo (b.map Int.ofNat) Option.none items.toArray.size).2.1 (sliceBounds lo (b.map Int.ofNat) Option.none items.toArray.size).2.2 =
    Builtin.Str.strSliceIndices lo (b.map Int.ofNat) 1 items.toArray.size from rfl, e]
  refine (congrArg List.toArray (range_pick items.toArray _ _)).trans ?_
  congr 1
  have := cut_take items a b
  simpa using this
theorem VRs.cut {F : Fx} {h : Heap} {a : Nat} {b : Option Nat} {vs : List Value} {l : List MV} (x : VRs F h vs l) : VRs F h (cut Value vs a b) (cut MV l a b) := by
  have dr : ∀ {n : Nat} {vs : List Value} {l : List MV}, VRs F h vs l → VRs F h (vs.drop n) (l.drop n) := by
    intro n
    induction n with
    | zero => intro _ _ x; exact x
    | succ n ih => intro _ _ x; cases x with
      | nil => exact .nil
      | cons _ r => exact ih r
  have tk : ∀ {n : Nat} {vs : List Value} {l : List MV}, VRs F h vs l → VRs F h (vs.take n) (l.take n) := by
    intro n
    induction n with
    | zero => intro _ _ _; exact .nil
    | succ n ih => intro _ _ x; cases x with
      | nil => exact .nil
      | cons k r => exact .cons k (ih r)
  unfold Nor.cut
  cases b with
  | none => exact dr x
  | some b => exact dr (tk x)
theorem cut_le {α : Type} (l : List α) (a : Nat) (b : Option Nat) : (cut α l a b).length ≤ l.length := by
  unfold cut; cases b <;> simp <;> omega
theorem VRs.append {F : Fx} {h : Heap} : ∀ {vs ws : List Value} {l m : List MV}, VRs F h vs l → VRs F h ws m → VRs F h (vs ++ ws) (l ++ m)
  | _, _, _, _, .nil, y => y
  | _, _, _, _, .cons k r, y => .cons k (r.append y)
theorem VRs.get {F : Fx} {h : Heap} : ∀ {vs : List Value} {l : List MV} {i : Nat} {v : MV}, VRs F h vs l → l[i]? = some v → ∃ u, vs[i]? = some u ∧ VR F h u v
  | _, _, _, _, .nil, e => by simp at e
  | _, _, 0, _, .cons k _, e => by simp at e; subst e; exact ⟨_, rfl, k⟩
  | _, _, i + 1, _, .cons _ r, e => by simp at e; obtain ⟨u, a, b⟩ := r.get e; exact ⟨u, by simpa using a, b⟩
theorem VRs.strs {F : Fx} {h : Heap} : ∀ {vs : List Value} {l : List MV} {ys : List PySem.Str}, VRs F h vs l → strsOf l = some ys → StrsAre vs ys
  | _, _, _, .nil, e => by cases e; exact .nil
  | _, _, ys, .cons (v := v) (m := m) k r, e => by
    cases k with
    | str s t z =>
      simp only [strsOf, Option.map_eq_some_iff] at e
      obtain ⟨ys', e1, rfl⟩ := e
      exact .cons _ _ (r.strs e1)
    | _ => simp [strsOf] at e

section
variable {F : Fx} {A : Around} {E : Value → Shared → Prop} {s : Shared} {Q : Value → Shared → Prop}

theorem any_contains (l : List PySem.Str) (x : PySem.Str) : (l.any (· == x)) = l.contains x := by
  induction l with
  | nil => rfl
  | cons y r ih => rw [List.any_cons, List.contains_cons, ih, BEq.comm]

theorem cmp_ok {op : CmpOp} {a b c : MV} {u v : Value} (hb : F.H.StaysIn s.heap) (he : cmpMV op a b = some c) (x : VR F s.heap u a) (y : VR F s.heap v b)
    (hlist : ∀ (a b : Addr) (vs ws : List Value) (xs ys : List PySem.Str), s.heap.IsList a vs.toArray → s.heap.IsList b ws.toArray → StrsAre vs xs → StrsAre ws ys →
      (∀ s', Gr s s' → Q (.bool (xs == ys)) s') → wpAny (model prg F.w) A (compareOp .Eq (.ref a) (.ref b)) Q E s)
    (h : ∀ r s', VR F s'.heap r c → Gr s s' → Q r s') : wpAny (model prg F.w) A (compareOp op u v) Q E s := by
  refine Classical.byContradiction fun no => ?_
  have hB : ∀ r : Bool, c = .bool r → Q (.bool r) s := fun r e => h _ s (e ▸ .bool r) (Gr.refl s)
  have i := x.inv
  have j := y.inv
  clear x y
  cases a with
  | int m =>
    cases b with
    | int n =>
      obtain ⟨t, rfl⟩ := i
      obtain ⟨t', rfl⟩ := j
      cases op with
      | Eq => exact no (eq_int (hB _ (Option.some.inj he).symm))
      | NotEq => exact no (ne_int (hB _ (Option.some.inj he).symm))
      | Lt => exact no (lt_int (hB _ (Option.some.inj he).symm))
      | LtE => exact no (le_int (hB _ (Option.some.inj he).symm))
      | Gt => exact no (gt_int (hB _ (Option.some.inj he).symm))
      | GtE => exact no (ge_int (hB _ (Option.some.inj he).symm))
      | _ => exact no_some he
    | _ => exact no_some he
  | str m =>
    obtain ⟨t, rfl, z⟩ := i
    cases b with
    | str n =>
      obtain ⟨t', rfl, z'⟩ := j
      cases op with
      | Eq => exact no (eq_str (hB _ (Option.some.inj he).symm))
      | NotEq => exact no (ne_str (hB _ (Option.some.inj he).symm))
      | _ => exact no_some he
    | set l =>
      obtain ⟨a, rfl, n, o, es, ep, t, ho, r⟩ := j
      cases op with
      | In => exact no (wpAny_inSet_of (knd := strKind prg F.w) (strKind_is prg F.w _ _) rfl ⟨o, es, ep, t, hb _ _ ho, r⟩ (h _ _ (Option.some.inj he ▸ .bool _) (Gr.tok s _)))
      | NotIn => exact no (wpAny_notInSet_of (knd := strKind prg F.w) (strKind_is prg F.w _ _) rfl ⟨o, es, ep, t, hb _ _ ho, r⟩ (h _ _ (Option.some.inj he ▸ .bool _) (Gr.tok s _)))
      | _ => exact no_some he
    | list l =>
      obtain ⟨a, vs, rfl, i, z, r⟩ := j
      obtain ⟨ys, e1, he⟩ := Option.bind_eq_some_iff.mp he
      cases op with
      | In => exact no (in_list_strs i (r.strs e1) (by rw [any_contains]; exact hB _ (Option.some.inj he).symm))
      | NotIn => exact no (notin_list_strs i (r.strs e1) (by rw [any_contains]; exact hB _ (Option.some.inj he).symm))
      | _ => exact no_some he
    | _ => exact no_some he
  | bool m =>
    cases b with
    | bool n =>
      obtain rfl := i
      obtain rfl := j
      cases op with
      | Eq => exact no (eq_bool (hB _ (Option.some.inj he).symm))
      | NotEq => exact no (ne_bool (hB _ (Option.some.inj he).symm))
      | _ => exact no_some he
    | _ => exact no_some he
  | list l =>
    cases b with
    | list l' =>
      obtain ⟨a, vs, rfl, i, z, r⟩ := i
      obtain ⟨a', vs', rfl, i', z', r'⟩ := j
      cases op with
      | Eq =>
        obtain ⟨xs, e1, he⟩ := Option.bind_eq_some_iff.mp he
        obtain ⟨ys, e2, e3⟩ := Option.map_eq_some_iff.mp he
        exact no (hlist _ _ _ _ _ _ i i' (r.strs e1) (r'.strs e2) fun s' g => h _ s' (e3 ▸ .bool _) g)
      | _ => exact no_some he
    | _ => exact no_some he
  | _ => exact no_some he

theorem fits_spec {i : Int} (h : fits i = true) : -1000000000000 ≤ i ∧ i ≤ 1000000000000 := by
  unfold fits at h
  simp only [Bool.and_eq_true, decide_eq_true_eq] at h
  exact h
theorem cond_some {α : Type} {b : Bool} {x : Option α} {r : α} (h : (bif b then x else Option.none) = some r) : b = true ∧ x = some r := by
  cases b <;> simp_all
theorem cond_some' {α : Type} {b : Bool} {x : Option α} {r : α} (h : (bif b then Option.none else x) = some r) : b = false ∧ x = some r := by
  cases b <;> simp_all

theorem list_add_ok {l b : Addr} {vs ws : List Value} {xs ys : List MV} (hl : s.heap.IsList l vs.toArray) (hb : s.heap.IsList b ws.toArray) (x : VRs F s.heap vs xs) (y : VRs F s.heap ws ys)
    (hz : xs.length + ys.length ≤ sizeLine) (h : ∀ r s', VR F s'.heap r (.list (xs ++ ys)) → Gr s s' → Q r s') : wpAny (model prg F.w) A (binaryOp .Add (.ref l) (.ref b)) Q E s := by
  have l1 := x.length
  have l2 := y.length
  obtain ⟨⟨cls, dd, data, sl⟩, ho, hc, n, hd⟩ := id hl
  obtain ⟨⟨cls2, dd2, data2, sl2⟩, ho2, hc2, n2, hd2⟩ := id hb
  simp only at hc hd hc2 hd2
  subst hc hd hc2 hd2
  have e : vs.toArray ++ ws.toArray = (vs ++ ws).toArray := by simp
  have g : Gr s { s with heap := s.heap.push { cls := .type "list", data := .seq (vs ++ ws).toArray } } := Gr.push s _
  refine concat_meets ⟨_, ho, rfl⟩ ⟨_, ho2, rfl⟩ noFill_list_add seq_list_add PySem.F.slot_list_add PySem.F.entry_list_add (PySem.F.args_list_add_2 _ _) (list_addW l b vs.toArray ws.toArray n n2 dd dd2 sl sl2 (by simp; omega)) ⟨ho, ho2, ?_⟩
  rw [e]
  exact h _ _ (.list _ (vs ++ ws) _ ⟨_, Heap.get?_push_size _ rfl, rfl, 0, rfl⟩ (by rw [List.length_append]; exact hz) ((x.gr g).append (y.gr g))) g

theorem not_zero {y : Int} (h : (!(y == 0)) = true) : y ≠ 0 := by simpa using h
theorem bin_ok {op : Operator} {a b c : MV} {u v : Value} (hp : PySem.PylongRoom (model prg F.w) A s) (he : binMV op a b = some c) (x : VR F s.heap u a) (y : VR F s.heap v b)
    (h : ∀ r s', VR F s'.heap r c → Gr s s' → Q r s') : wpAny (model prg F.w) A (binaryOp op u v) Q E s := by
  refine Classical.byContradiction fun no => ?_
  have hI : ∀ i : Int, c = .int i → Q (.int i s.toks) { s with toks := s.toks + 1 } := fun i e => h _ _ (e ▸ .int i _) (Gr.tok s _)
  obtain ⟨⟨g, w⟩, e, he⟩ := Option.bind_eq_some_iff.mp he
  obtain ⟨q, he⟩ := cond_some he
  replace q : g = true := q
  replace he : w = c := Option.some.inj he
  subst he
  have i := x.inv
  have j := y.inv
  clear x y
  have zl := sizeLine_big
  cases a with
  | int m =>
    cases b with
    | int n =>
      obtain ⟨t, rfl⟩ := i
      obtain ⟨t', rfl⟩ := j
      cases op with
      | Add => exact no (add_int (hI _ (congrArg Prod.snd (Option.some.inj e)).symm))
      | Sub => exact no (sub_int' (hI _ (congrArg Prod.snd (Option.some.inj e)).symm))
      | Mult =>
        have q1 : fits m = true := (Bool.and_eq_true_iff.mp ((congrArg Prod.fst (Option.some.inj e)).trans q)).1
        have := fits_spec q1
        exact no (mul_int (hI _ (congrArg Prod.snd (Option.some.inj e)).symm) (IntMulOk.of_left (PySem.intBits_le_64 (by omega) (by omega))))
      | FloorDiv => exact no (floordiv_int (not_zero ((congrArg Prod.fst (Option.some.inj e)).trans q)) (hI _ (congrArg Prod.snd (Option.some.inj e)).symm) (.inr hp))
      | Mod => exact no (mod_int' (not_zero ((congrArg Prod.fst (Option.some.inj e)).trans q)) (hI _ (congrArg Prod.snd (Option.some.inj e)).symm))
      | RShift => exact no (rshift_int (of_decide_eq_true (Bool.and_eq_true_iff.mp ((congrArg Prod.fst (Option.some.inj e)).trans q)).1) (hI _ (congrArg Prod.snd (Option.some.inj e)).symm))
      | _ => exact no_some e
    | _ => exact no_some e
  | str m =>
    cases b with
    | str n =>
      obtain ⟨t, rfl, z⟩ := i
      obtain ⟨t', rfl, z'⟩ := j
      cases op with
      | Add =>
        have q := Nat.le_of_ble_eq_true ((congrArg Prod.fst (Option.some.inj e)).trans q)
        have ew : MV.str (m ++ n) = w := congrArg Prod.snd (Option.some.inj e)
        exact no (add_str (fun t' tk => h _ _ (ew ▸ .str _ t' (by rw [strLen_append]; omega)) (Gr.tok s tk)) (by omega))
      | _ => exact no_some e
    | _ => exact no_some e
  | list m =>
    cases b with
    | list n =>
      obtain ⟨a, vs, rfl, i, z, r⟩ := i
      obtain ⟨a', vs', rfl, i', z', r'⟩ := j
      cases op with
      | Add =>
        have q := Nat.le_of_ble_eq_true ((congrArg Prod.fst (Option.some.inj e)).trans q)
        have ew : MV.list (m ++ n) = w := congrArg Prod.snd (Option.some.inj e)
        exact no (list_add_ok i i' r r' (by omega) fun r s' x => h r s' (ew ▸ x))
      | _ => exact no_some e
    | _ => exact no_some e
  | _ => exact no_some e

theorem ibin_ok {op : Operator} {i j : Int} {t k : Tok} {c : MV} (he : binMV op (.int i) (.int j) = some c) (hop : op = .Add ∨ op = .Sub)
    (h : ∀ r s', VR F s'.heap r c → Gr s s' → Q r s') : wpAny (model prg F.w) A (inplaceOp op (.int i t) (.int j k)) Q E s := by
  rcases hop with rfl | rfl
  · cases he; exact PyProof.Rows.iadd_int (h _ _ (.int _ _) (Gr.tok s _))
  · cases he; exact PyProof.Rows.isub_int (h _ _ (.int _ _) (Gr.tok s _))

theorem idx_ok {value slice : Expr} {o i c : MV} {u v : Value} (hs : isSliceE slice = false) (hn : isNameE value = true ∨ isStrV o = true) (he : idxMV o i = some c) (x : VR F s.heap u o) (y : VR F s.heap v i)
    (h : ∀ r s', VR F s'.heap r c → Gr s s' → Q r s') : wpAny (model prg F.w) A (subscriptTail value slice u v) Q E s := by
  have sub : ∀ o i : Value, subscripted slice false o i = operate [o, i] (getItem o i) := fun o i => by
    cases slice <;> first | rfl | (cases hs)
  refine Classical.byContradiction fun no => ?_
  have xi := x.inv
  have yi := y.inv
  clear x y
  have hz : sizeLine = 16777216 := by decide
  cases i with
  | int i =>
    obtain ⟨ti, rfl⟩ := yi
    cases o with
    | str st =>
      obtain ⟨t, rfl, z⟩ := xi
      obtain ⟨q, he⟩ := cond_some he
      cases he
      obtain ⟨q0, q1⟩ := Bool.and_eq_true_iff.mp q
      rw [decide_eq_true_iff] at q0 q1
      refine no (item_str (by simp [fitsSsize]; omega) (by omega) q1 (fun _ => ?_) (sub _ _) (fun r => by cases value <;> rfl))
      have e : Txt.item st i = ⟨#[st.cps.toList.getD i.toNat 0]⟩ := by
        have lt : i.toNat < st.cps.size := by have e : st.length = st.cps.size := rfl; omega
        rw [item_meets (n := st.cps[i.toNat]) q0 (by simp [lt])]
        simp [lt]
      rw [e]
      exact h _ _ (.str _ _ (by show 1 ≤ _; decide)) (Gr.tok s _)
    | list l =>
      obtain ⟨a, vs, rfl, ii, z, r⟩ := xi
      obtain ⟨q, he⟩ := cond_some he
      obtain ⟨q0, q1⟩ := Bool.and_eq_true_iff.mp q
      rw [decide_eq_true_iff] at q0 q1
      obtain ⟨w, e1, e2⟩ := r.get he
      rcases hn with hn | hn
      · exact no (item_list ii q0 (by omega) (by simpa using e1) (h _ s e2 (Gr.refl s)) (sub _ _) (fun r => by cases value <;> first | rfl | (cases hn)))
      · cases hn
    | _ => cases he
  | _ => cases he

/-- a part of a slice -/
noncomputable def VRO (F : Fx) (h : Heap) (u : Value) : Option MV → Prop
  | some m => VR F h u m
  | Option.none => u = Value.none
/-- a slice's bounds, as they lie -/
theorem bnd_part {h : Heap} {F : Fx} {m : Option MV} {n : Option Nat} {u : Value} (e : bnd m = some n) (x : VRO F h u m) :
    IsPart u (n.map Int.ofNat) ∧ (u = Value.none ∧ n = Option.none ∨ ∃ k t, n = some k ∧ u = .int k t) := by
  unfold bnd at e
  split at e
  · cases e; cases (show u = Value.none from x); exact ⟨.none, .inl ⟨rfl, rfl⟩⟩
  · rename_i i
    replace x : VR F h u (.int i) := x
    obtain ⟨q, e⟩ := cond_some e
    cases e
    simp only [Bool.and_eq_true, decide_eq_true_eq] at q
    cases x
    rename_i t
    have e : i = Int.ofNat i.toNat := (Int.toNat_of_nonneg q.1).symm
    refine ⟨?_, .inr ⟨i.toNat, t, rfl, by rw [show ((i.toNat : Nat) : Int) = i from Int.toNat_of_nonneg q.1]⟩⟩
    rw [Option.map_some, ← e]
    exact .int i t
  · cases e

theorem slice_ok {value : Expr} {lo hi : Option Expr} {p : Pos} {o c : MV} {ma mb : Option MV} {u ua ub : Value} (hn : isNameE value = true ∨ isStrV o = true) (he : sliceMV o ma mb = some c) (x : VR F s.heap u o)
    (ya : VRO F s.heap ua ma) (yb : VRO F s.heap ub mb)
    (h : ∀ r s', VR F s'.heap r c → Gr s s' → Q r s') :
    wpAny (model prg F.w) A (subscriptTail value (.Slice lo hi Option.none p) u (.ref s.heap.objs.size)) Q E { s with heap := s.heap.push { cls := .type "slice", data := .fields #[ua, ub, .none] } } := by
  unfold sliceMV at he
  obtain ⟨na, ea, he1⟩ := Option.bind_eq_some_iff.mp he
  obtain ⟨nb, eb, he2⟩ := Option.bind_eq_some_iff.mp he1
  clear he he1
  obtain ⟨pa, qa⟩ := bnd_part ea ya
  obtain ⟨pb, qb⟩ := bnd_part eb yb
  have hlo : na.map Int.ofNat = Option.none ∧ na.getD 0 = 0 ∨ na.map Int.ofNat = some ((na.getD 0 : Nat) : Int) := by
    cases na with
    | none => exact .inl ⟨rfl, rfl⟩
    | some k => exact .inr rfl
  have xi := x.inv
  clear x
  cases o with
  | str st =>
    obtain ⟨t, rfl, z⟩ := xi
    cases he2
    have kh : KeptH (fun h' : Heap => ∀ b o, s.heap.get? b = some o → h'.get? b = some o) := fun h' ob k b o e => Heap.get?_push_of_some _ (k b o e)
    have le : (cut Nat st.cps.toList (na.getD 0) nb).length ≤ sizeLine := Nat.le_trans (cut_le _ _ _) (by simpa [PySem.Str.length] using z)
    have fin : ∀ h' t' k, (∀ b o, s.heap.get? b = some o → h'.get? b = some o) → Q (.str (Txt.slice st (na.map Int.ofNat) (nb.map Int.ofNat)) t') { s with heap := h', toks := k } := fun h' t' k g => by
      rw [slice_cut st (na.getD 0) nb _ hlo]
      exact h _ _ (.str _ t' (by simpa [PySem.Str.length] using le)) ⟨g, rfl, rfl⟩
    have hs : ∀ a : Addr, subscripted (.Slice lo hi Option.none p) false (.str st t) (.ref a) = operate [.ref a, .str st t] (getItem (.str st t) (.ref a)) := fun _ => rfl
    have ht : ∀ r, letTemporaryGo value (.str st t) r = pure () := fun r => by cases value <;> rfl
    rcases qa with ⟨rfl, rfl⟩ | ⟨ka, ta, rfl, rfl⟩ <;> rcases qb with ⟨rfl, rfl⟩ | ⟨kb, tb, rfl, rfl⟩
    · exact tail_of_ItemOn (SBH.sliceItem_nn kh (fun _ _ e => e) (fun h' t' k g => fin h' t' k g) z) (hs _) ht
    · exact tail_of_ItemOn (SBH.sliceItem_ns kh (fun _ _ e => e) (fun h' t' k g => fin h' t' k g) z) (hs _) ht
    · exact tail_of_ItemOn (SBH.sliceItem_sn kh (fun _ _ e => e) (fun h' t' k g => fin h' t' k g) z) (hs _) ht
    · exact tail_of_ItemOn (SBH.sliceItem_ss kh (fun _ _ e => e) (fun h' t' k g => fin h' t' k g) z) (hs _) ht
  | list l =>
    obtain ⟨a, vs, rfl, ii, z, r⟩ := xi
    cases he2
    rcases hn with hn | hn
    · have i2 : (s.heap.push { cls := .type "slice", data := .fields #[ua, ub, .none] }).IsList a vs.toArray := ii.push _
      have hsz : vs.toArray.size ≤ sizeLine := by have := r.length; simp; omega
      refine tail_any (ops := [.ref s.heap.objs.size, .ref a]) i2.typeIs slot_list_getitem.lookup (wpAny_getItem_list_slice i2 (Heap.IsSliceOf.new s.heap ua ub .none) pa pb .none (by simp) ?_ hsz) rfl
      rw [pick_cut vs (na.getD 0) nb _ hlo]
      have g : Gr s { s with heap := (s.heap.push { cls := .type "slice", data := .fields #[ua, ub, .none] }).push { cls := .type "list", data := .seq (cut Value vs (na.getD 0) nb).toArray } } := (Gr.push s _).trans (Gr.push _ _)
      exact h _ _ (.list _ _ _ ⟨_, Heap.get?_push_size _ rfl, rfl, 0, rfl⟩ (Nat.le_trans (cut_le _ _ _) z) ((r.gr g).cut)) g
    · cases hn
  | _ => cases he2

theorem truth_ok {a : MV} {b : Bool} {u : Value} {Q : Bool → Shared → Prop} (he : truth a = some b) (x : VR F s.heap u a) (h : ∀ s', Gr s s' → Q b s') : wpAny (model prg F.w) A (truthy u) Q E s := by
  have h0 := h s (Gr.refl s)
  have xi := x.inv
  clear x
  cases a with
  | none => cases he; obtain rfl := xi; exact wpAny_pure h0
  | bool b => cases he; obtain rfl := xi; exact wpAny_truthy_bool h0
  | int i => cases he; obtain ⟨t, rfl⟩ := xi; exact PyProof.Rows.truthy_int h0
  | str st =>
    obtain ⟨t, rfl, z⟩ := xi
    cases he
    have hz : sizeLine = 16777216 := by decide
    have := h _ (Gr.tok s (s.toks + 1 + 1))
    refine PySem.P.truthy_str (by omega) ?_
    rwa [show ((st.length : Int) != 0) = (st.length != 0) from by rw [Bool.eq_iff_iff]; simp]
  | list l =>
    obtain ⟨a, vs, rfl, i, z, r⟩ := xi
    cases he
    have e : (!l.isEmpty) = !vs.toArray.isEmpty := by
      have := r.length
      cases vs <;> cases l <;> simp_all
    have hz : sizeLine = 16777216 := by decide
    have l1 := r.length
    refine wpAny_truthy_list i (by simp; omega) ?_
    have := h _ (Gr.tok s (s.toks + 1 + 1))
    rwa [e] at this
  | _ => cases he
end
end Nor
end

section
open PySem PySem.W PyProof.Rows PySem.Calls
set_option Elab.async false
set_option maxRecDepth 100000
namespace Nor

/-- a def of the text, as it stands in the heap -/
structure FnAt (F : Fx) (a : Addr) (d : Def) (o : Obj) (fd : FuncData) : Prop where
  at_ : F.H.get? a = some o
  data : o.data = .func fd
  body : fd.body = .stmts d.body
  names : fd.scope.names = d.names
  kind : fd.scope.kind = .function
  co : fd.scope.isCoroutine = false
  gen : fd.scope.isGenerator = false
  cell : ∀ x ∈ fd.scope.names, x.2 ≠ .cell
  loc : ∀ p ∈ d.params, fd.scope.names.lookup p = some .local
  glob : fd.globals = mainGlobals
  blt : fd.builtins = builtinsNs
  clos : fd.closure = []
  code : F.H.CodeRec fd.code fd.qualname
  bind : ∀ vs : List Value, vs.length = d.params.length → bindArgs fd ⟨vs, []⟩ = pure (d.params.zip vs)
  nodup : d.params.Nodup

/-- what a built-in's name means -/
noncomputable def bltVal (f : PySem.Str) : Value := bif f == "len" then .builtin "len" else bif f == "ord" then .builtin "ord" else bif f == "chr" then .builtin "chr" else
  bif f == "min" then .builtin "min" else bif f == "max" then .builtin "max" else .type "range"
/-- what the heap at the start is known to hold -/
structure Facts (F : Fx) (T : Tab) : Prop where
  X : F.K.In F.H
  g : F.H.Ns mainGlobals F.mg
  b : F.H.Ns builtinsNs F.mb
  blt : ∀ f ∈ bltNames, F.mg f = Option.none ∧ F.mb f = some (bltVal f)
  lim : F.H.NoLimit
  div : ∀ (A : Around) (env : Env) (envs : List Env) (s : Shared), F.H.StaysIn s.heap → Room A 0 → A.frames = some (env :: envs) → env.scope.isGenerator = false → env.scope.isCoroutine = false → env.builtins = builtinsNs → env.globals = mainGlobals → PySem.PylongRoom (model prg F.w) A s
  glob : ∀ x v, T.glob x = some v → ∃ u, F.mg x = some u ∧ VR F F.H u v
  cls : F.mg "NorwegianStemmer" = some (.ref F.C)
  clsAt : ∀ a v, T.cls a = some v → ∃ u, VR F F.H u v ∧ ∀ (expr : Bool) (A : Around) (E : Value → Shared → Prop) (Q : Value → Shared → Prop) (s : Shared), F.H.StaysIn s.heap → Q u { s with toks := s.toks + 1 } →
    wpAny (model prg F.w) A (getAttr (.ref F.C) a expr) Q E s
  am : ∀ c x i r, F.am c x i r → ∀ a v, amAttr x i r a = some v → ∃ u, VR F F.H u v ∧ ∀ (expr : Bool) (A : Around) (E : Value → Shared → Prop) (Q : Value → Shared → Prop) (s : Shared), F.H.StaysIn s.heap → Q u { s with toks := s.toks + 1 } →
    wpAny (model prg F.w) A (getAttr (.ref c) a expr) Q E s
  fld : ∀ a ∈ fieldNames, plainGet F.K F.C a = true ∧ hasDictIn F.K F.C = true ∧ (∃ attr, findIn F.K (.ref F.C) a = some attr ∧ noGet F.K attr = true) ∧
    findIn F.K (.ref F.C) "__setattr__" = some (some (.builtin "object.__setattr__")) ∧ plainOver F.K F.C = true ∧ takerIn F.K F.C a = some Option.none
  meth : ∀ m d, methOf m = some d → ∃ a o fd, findIn F.K (.ref F.C) m = some (some (.ref a)) ∧ isFn F.K (.ref a) = true ∧ plainGet F.K F.C m = true ∧ FnAt F a d o fd
  fn : ∀ f d, defOfS f prg.main.body = some d → ∃ a o fd, F.mg f = some (.ref a) ∧ FnAt F a d o fd

/-- a value behind an expression -/
structure PV (F : Fx) (L : Addr) (fs : List Addr) (ρ φ : Fld) (s s' : Shared) : Prop where
  inv : Inv F L fs ρ φ s'.heap
  kp : Kp [F.dx] (L :: fs) s.heap s'.heap
  sm : Sm s s'
theorem PV.of_gr {F : Fx} {L : Addr} {fs : List Addr} {ρ φ : Fld} {s s' : Shared} (I : Inv F L fs ρ φ s.heap) (g : Gr s s') : PV F L fs ρ φ s s' :=
  ⟨I.grow g.1, Kp.of_grow g.1, g.2⟩
theorem PV.trans {F : Fx} {L : Addr} {fs : List Addr} {ρ φ φ' : Fld} {a b c : Shared} (x : PV F L fs ρ φ a b) (y : PV F L fs ρ φ' b c) : PV F L fs ρ φ' a c :=
  ⟨y.inv, x.kp.trans y.kp, x.sm.trans y.sm⟩
theorem PV.vr {F : Fx} {L : Addr} {fs : List Addr} {ρ φ φ' : Fld} {a b : Shared} (I : Inv F L fs ρ φ' a.heap) (x : PV F L fs ρ φ a b) {u : Value} {v : MV} (h : VR F a.heap u v) : VR F b.heap u v := h.kp x.kp I.c.dicts
theorem PV.vrs {F : Fx} {L : Addr} {fs : List Addr} {ρ φ φ' : Fld} {a b : Shared} (I : Inv F L fs ρ φ' a.heap) (x : PV F L fs ρ φ a b) {u : List Value} {v : List MV} (h : VRs F a.heap u v) : VRs F b.heap u v := h.kp x.kp I.c.dicts

/-- where a def stands -/
noncomputable def AddrOf (F : Fx) (f : PySem.Str) (as : List MV) (a : Addr) : Prop := match as with
  | .self :: _ => findIn F.K (.ref F.C) f = some (some (.ref a)) ∧ isFn F.K (.ref a) = true ∧ plainGet F.K F.C f = true
  | _ => F.mg f = some (.ref a)
/-- the value of a def, where the table tells it -/
noncomputable def CallOk (F : Fx) (Φ : CallT) (k : Nat) : Prop :=
  ∀ f as v φ φ', Φ f as φ = some (v, φ') → ∃ a o fd, (F.H.get? a = some o ∧ o.data = .func fd) ∧ AddrOf F f as a ∧
    ∀ (A : Around) (envs : List Env) (fs : List Addr) (E : Value → Shared → Prop) (Q : Value → Shared → Prop) (s : Shared) (us : List Value),
    Room A k → Ard A envs fs → InvC F fs φ s.heap → VRs F s.heap us as →
    (∀ u s', VR F s'.heap u v → InvC F fs φ' s'.heap → Kp [F.dx] fs s.heap s'.heap → Sm s s' → Q u s') → wpAny (model prg F.w) A (call (.ref a) us) Q E s

theorem handed_vr {F : Fx} {h : Heap} {u : Value} {v : MV} (x : VR F h u v) : handedIn u = true := by cases x <;> rfl

theorem Inv.base {F : Fx} {L : Addr} {fs : List Addr} {ρ φ : Fld} {h : Heap} (I : Inv F L fs ρ φ h) : F.H.StaysIn h := I.c.base
theorem VR.up {F : Fx} {h : Heap} (k : F.H.StaysIn h) {u : Value} {v : MV} (x : VR F F.H u v) : VR F h u v :=
  x.kp (D := []) (fs := []) (Kp.of_grow k) (fun _ m => nomatch m)

section
variable {F : Fx} {T : Tab} {A : Around} {E : Value → Shared → Prop} {s : Shared} {Q : Value → Shared → Prop}

theorem lookIn_ns {h : Heap} {a : Addr} {m : PySem.Str → Option Value} {o : Obj} {x : PySem.Str} (n : h.Ns a m) (e : h.get? a = some o) : lookIn x o = some (m x) := by
  obtain ⟨o', es, ep, e', d, k, f⟩ := n
  rw [e] at e'; cases e'
  unfold lookIn
  rw [d]
  dsimp only
  have q : es.toList.find? (fun t => t.key.isStr x) = es.find? (fun t => t.key.isStr x) := by rw [Array.find?_toList]
  rw [q]
  have fx := f x
  unfold nsFind findBy at fx
  split
  · rename_i en h'
    rw [h'] at fx
    rw [← fx]; rfl
  · rename_i h'
    rw [h'] at fx
    have nr : es.toList.any (fun t => t.refKey) = false := by
      rw [List.any_eq_false]
      intro t ht
      obtain ⟨n, tk, q⟩ := k t (Array.mem_toList_iff.mp ht)
      unfold DictEntry.refKey
      rw [q]; exact Bool.false_ne_true
    rw [nr, ← fx]; rfl

theorem dict_at {h : Heap} {a : Addr} {m : PySem.Str → Option Value} (n : h.Ns a m) : ∃ o, h.get? a = some o := let ⟨o, _, _, e, _⟩ := n; ⟨o, e⟩

/-- a field of the stemmer's, read -/
theorem get_fld (K : Facts F T) {fs : List Addr} {φ : Fld} {a : PySem.Str} {v : MV} {expr : Bool} (I : InvC F fs φ s.heap) (ha : a ∈ fieldNames) (he : get a φ = some v)
    (h : ∀ u, VR F s.heap u v → Q u { s with toks := s.toks + 1 }) : wpAny (model prg F.w) A (getAttr (.ref F.x) a expr) Q E s := by
  obtain ⟨p1, p2, ⟨attr, p3, p4⟩, _⟩ := K.fld a ha
  obtain ⟨m, n, _, f⟩ := I.dict
  replace n := n.ns
  obtain ⟨u, e1, e2⟩ := (f a).1 v he
  obtain ⟨od, eo⟩ := dict_at n
  have IA : InstAt s.heap F.x (instObj F.C F.dx) F.C (some od) := ⟨I.inst, rfl, rfl, eo⟩
  exact get_value (K.X.keeps I.base) IA (plainGet_of p1).1 (findObj_own p2 p3 p4 (by rw [lookIn_ns n eo, e1])) (handed_vr e2) (h u e2)

theorem len_sub : ∀ (l S : List PySem.Str), l.Nodup → (∀ x ∈ l, x ∈ S) → l.length ≤ S.length
  | [], _, _, _ => Nat.zero_le _
  | x :: r, S, n, h => by
    have hx := h x (.head _)
    have := len_sub r (S.erase x) (List.nodup_cons.mp n).2 (fun y hy => (List.mem_erase_of_ne (by intro q; subst q; exact (List.nodup_cons.mp n).1 hy)).mpr (h y (.tail _ hy)))
    have e := List.length_erase_of_mem hx
    have p := List.length_pos_of_mem hx
    rw [List.length_cons]; omega
/-- a dict of few names is small -/
theorem size_keys {es : Array DictEntry} {S : List PySem.Str} (k : StrKeys es) (q : UniqKeys es) (f : ∀ x, x ∉ S → nsFind es x = Option.none) : es.size ≤ S.length := by
  let nm : DictEntry → PySem.Str := fun e => match e.key with | .str x _ => x | _ => "?"
  have hk : ∀ e ∈ es.toList, ∀ x, e.key.isStr x = true ↔ nm e = x := fun e he x => by
    obtain ⟨n, t, z⟩ := k e (Array.mem_toList_iff.mp he)
    show _ ↔ (match e.key with | .str x _ => x | _ => "?") = x
    rw [z]; exact beq_iff_eq
  have nd : (es.toList.map nm).Nodup := by
    rw [List.nodup_iff_pairwise_ne, List.pairwise_map]
    refine List.Pairwise.imp_of_mem ?_ q
    intro a b ha hb z w
    exact z (nm a) ((hk a ha _).mpr rfl) ((hk b hb _).mpr w.symm)
  have := len_sub _ S nd fun x hx => by
    obtain ⟨e, he, rfl⟩ := List.mem_map.mp hx
    refine Classical.byContradiction fun nx => ?_
    have z := f _ nx
    unfold nsFind findBy at z
    have : es.find? (fun t => t.key.isStr (nm e)) = Option.none := by
      cases y : es.find? (fun t => t.key.isStr (nm e)) with
      | none => rfl
      | some t => rw [y] at z; cases z
    rw [← Array.find?_toList, List.find?_eq_none] at this
    exact this e he ((hk e he _).mpr rfl)
  simpa using this
/-- the stemmer's fields behind a store -/
theorem InvC.store {F : Fx} {fs : List Addr} {φ : Fld} {h h' : Heap} {a : PySem.Str} {u : Value} {v : MV} {m : PySem.Str → Option Value} (I : InvC F fs φ h) (n : h.Ns1 F.dx m) (f0 : ∀ a, a ∉ fieldNames → m a = Option.none) (ha : a ∈ fieldNames)
    (f : ∀ a, (∀ v, get a φ = some v → ∃ u, m a = some u ∧ VR F h u v) ∧ (get a φ = Option.none → m a = Option.none)) (x : VR F h u v)
    (n' : h'.Ns1 F.dx (fun y => if y = a then some u else m y)) (sb : Heap.SameBut F.dx h h') : InvC F fs (put a v φ) h' ∧ Kp [F.dx] fs h h' := by
  have kp : ∀ fs, Kp [F.dx] fs h h' := fun fs b o e nb => by
    have ne : b ≠ F.dx := fun q => nb (by rw [q]; exact .head _)
    have e' := (sb.2 b ne).trans e
    exact ⟨fun _ => e', fun _ => ⟨o.slots, e'⟩⟩
  have vr : ∀ {u : Value} {v : MV}, VR F h u v → VR F h' u v := fun y => y.kp (kp fs) I.dicts
  have gp : ∀ (φ : Fld) (b : PySem.Str), get b (put a v φ) = if b = a then some v else get b φ := by
    intro φ b
    induction φ with
    | nil =>
      simp only [put, get]
      by_cases q : b = a
      · subst q; simp
      · have : (a == b) = false := by rw [beq_eq_false_iff_ne]; exact fun z => q z.symm
        simp [this, q]
    | cons p r ih =>
      obtain ⟨y, w⟩ := p
      by_cases q1 : y = a
      · subst q1
        simp only [put, beq_self_eq_true, cond_true, get]
        by_cases q : b = y
        · subst q; simp
        · have : (y == b) = false := by rw [beq_eq_false_iff_ne]; exact fun z => q z.symm
          simp [this, q]
      · have z1 : (y == a) = false := by rw [beq_eq_false_iff_ne]; exact q1
        simp only [put, z1, cond_false, get, ih]
        by_cases q : b = a
        · subst q; simp [z1]
        · simp [q]
  refine ⟨⟨Kp.base I (kp fs), ?_, ⟨_, n', fun b nb => ?_, fun b => ?_⟩, fun b mb => ?_, I.nd, I.old⟩, kp fs⟩
  · have ne : F.x ≠ F.dx := fun q => by
      obtain ⟨o, es, ep, e, d, _⟩ := n
      have := I.inst
      rw [q, e] at this
      cases this; cases d
    exact (sb.2 _ ne).trans I.inst
  · have q : b ≠ a := fun q => nb (q ▸ ha)
    simp only [if_neg q]; exact f0 b nb
  · rw [gp]
    by_cases q : b = a
    · subst q
      simp only [if_true]
      exact ⟨fun w e => by cases e; exact ⟨u, rfl, vr x⟩, fun e => nomatch e⟩
    · simp only [if_neg q]
      exact ⟨fun w e => let ⟨u', e1, e2⟩ := (f b).1 w e; ⟨u', e1, vr e2⟩, (f b).2⟩
  · obtain ⟨m', nm⟩ := I.fr b mb
    have ne : b ≠ F.dx := fun q => I.nd (q ▸ mb)
    exact ⟨m', nm.sameBut sb ne⟩

/-- a field of the stemmer's, stored -/
theorem set_fld (K : Facts F T) {fs : List Addr} {φ : Fld} {a : PySem.Str} {u : Value} {v : MV} {Q : Unit → Shared → Prop} (I : InvC F fs φ s.heap) (ha : a ∈ fieldNames) (x : VR F s.heap u v)
    (h : ∀ s', InvC F fs (put a v φ) s'.heap → Kp [F.dx] fs s.heap s'.heap → Sm s s' → Q () s') : wpAny (model prg F.w) A (setAttr (.ref F.x) a u) Q E s := by
  obtain ⟨p1, p2, _, p5, p6, p7⟩ := K.fld a ha
  obtain ⟨m, n, f0, f⟩ := I.dict
  obtain ⟨od, eo⟩ := dict_at n.ns
  have IA : InstAt s.heap F.x (instObj F.C F.dx) F.C (some od) := ⟨I.inst, rfl, rfl, eo⟩
  have X := K.X.keeps I.base
  refine set_plain X IA p5 (osa_open (s := { s with toks := s.toks + 1 }) X IA p6 p7 fun b => ?_)
  obtain ⟨cd, hc, hd⟩ := any_some p2
  refine wpAny_bind (wpAny_pure (wpAny_bind (wpAny_bind (wpAny_loadPart I.inst (wpAny_bind (looks_clsIn X hc _ _ _ { s with toks := s.toks + 1 } (fun _ _ e => e) ?_))))))
  rw [hd]
  refine wpAny_pure (a := some F.dx) (wpAny_bind (wpAny_pure (wpAny_bind ?_)))
  refine wpAny_nsSet1 n fun h' n' sb => wpAny_bind ?_
  obtain ⟨I', kp⟩ := I.store n f0 ha f x n' sb
  obtain ⟨m', ⟨o', es', ep', e', d', k', q', f'⟩, f0', _⟩ := I'.dict
  refine wpAny_lookBehind e' (by rw [d']; exact pastItsLine_dict (Nat.le_trans (size_keys k' q' (fun x hx => by rw [f']; exact f0' x hx)) (by decide))) ?_
  exact wpAny_pure (h _ I' kp ⟨rfl, rfl⟩)
end
end Nor
end

section
open PySem PySem.W PyProof.Rows PySem.Calls
set_option Elab.async false
set_option maxRecDepth 100000
namespace Nor
section
variable {F : Fx} {T : Tab} {A : Around} {E : Value → Shared → Prop} {s : Shared} {Q : Value → Shared → Prop}

theorem beq_str {a b : PySem.Str} (h : (a == b) = true) : a = b := by simpa using h

theorem VRs.one {h : Heap} {us : List Value} {m : MV} (x : VRs F h us [m]) : ∃ u, us = [u] ∧ VR F h u m := by
  cases x with | cons k r => cases r; exact ⟨_, rfl, k⟩
theorem VRs.two {h : Heap} {us : List Value} {m n : MV} (x : VRs F h us [m, n]) : ∃ u v, us = [u, v] ∧ VR F h u m ∧ VR F h v n := by
  cases x with | cons k r => obtain ⟨v, rfl, k'⟩ := r.one; exact ⟨_, _, rfl, k, k'⟩
theorem VRs.three {h : Heap} {us : List Value} {m n p : MV} (x : VRs F h us [m, n, p]) : ∃ u v w, us = [u, v, w] ∧ VR F h u m ∧ VR F h v n ∧ VR F h w p := by
  cases x with | cons k r => obtain ⟨v, w, rfl, k', k2⟩ := r.two; exact ⟨_, _, _, rfl, k, k', k2⟩

theorem int2_inv {x y c : MV} {k : Int → Int → Option MV} (h : int2 x y k = some c) : ∃ a b, x = .int a ∧ y = .int b ∧ k a b = some c := by
  cases x with
  | int a => cases y with
    | int b => exact ⟨a, b, rfl, rfl, h⟩
    | _ => exact no_some h
  | _ => exact no_some h
theorem int1_inv {x c : MV} {k : Int → Option MV} (h : int1 x k = some c) : ∃ a, x = .int a ∧ k a = some c := by
  cases x with
  | int a => exact ⟨a, rfl, h⟩
  | _ => exact no_some h

theorem blt1_ok {f : PySem.Str} {a : MV} {u : Value} {c : MV} (he : blt1 f a = some c) (x : VR F s.heap u a)
    (h : ∀ r s', VR F s'.heap r c → Gr s s' → Q r s') : wpAny (model prg F.w) A (call (bltVal f) [u]) Q E s := by
  refine Classical.byContradiction fun no => ?_
  have hz : sizeLine = 16777216 := by decide
  have hI : ∀ (i : Int) (k : Tok), .int i = c → Q (.int i k) { s with toks := s.toks + 1 + 1 } := fun i k e => h _ _ (e ▸ .int i k) (Gr.tok s _)
  have xi := x.inv
  clear x
  cases a with
  | str st =>
    obtain ⟨t, rfl, z⟩ := xi
    replace he : (bif f == "len" then some (MV.int st.length) else bif f == "ord" && st.length == 1 then some (.int (st.cps.toList.getD 0 0 : Nat)) else Option.none) = some c := he
    cases q : (f == "len") with
    | true =>
      rw [q] at he
      obtain rfl := beq_str q
      exact no (PyProof.Rows.len_str (by omega) (hI _ _ (Option.some.inj he)))
    | false =>
      rw [q, cond_false] at he
      obtain ⟨q1, he2⟩ := cond_some he
      obtain ⟨q2, q3⟩ := Bool.and_eq_true_iff.mp q1
      obtain rfl := beq_str q2
      have e1 : st.length = 1 := by simpa using q3
      exact no (ord_of_one e1 (by
        have : st.cps.getD 0 0 = st.cps.toList.getD 0 0 := by simp
        rw [this]; exact h _ _ (Option.some.inj he2 ▸ .int _ _) (Gr.tok s _)))
  | list l =>
    obtain ⟨a, vs, rfl, i, z, r⟩ := xi
    obtain ⟨q, he2⟩ := cond_some he
    obtain rfl := beq_str q
    have l1 := r.length
    refine no (PyProof.Rows.len_list i (by simp; omega) ?_)
    rw [show (vs.toArray.size : Int) = (vs.length : Int) by simp, l1]
    exact hI _ _ (Option.some.inj he2)
  | int i =>
    obtain ⟨t, rfl⟩ := xi
    replace he : (bif f == "chr" && decide (0 ≤ i) && decide (i ≤ 1000000) then some (MV.str ⟨#[i.toNat]⟩) else bif f == "range" && fits i then some (.range 0 i 1) else Option.none) = some c := he
    cases q : (f == "chr" && decide (0 ≤ i) && decide (i ≤ 1000000)) with
    | true =>
      rw [q] at he
      obtain ⟨q1, q3⟩ := Bool.and_eq_true_iff.mp q
      obtain ⟨q1, q2⟩ := Bool.and_eq_true_iff.mp q1
      rw [decide_eq_true_iff] at q2 q3
      obtain rfl := beq_str q1
      exact no (chr_of_range q2 (by omega) (h _ _ (Option.some.inj he ▸ .str _ _ (by show 1 ≤ _; decide)) (Gr.tok s _)))
    | false =>
      rw [q, cond_false] at he
      obtain ⟨q1, he2⟩ := cond_some he
      obtain ⟨q2, _⟩ := Bool.and_eq_true_iff.mp q1
      obtain rfl := beq_str q2
      exact no (PySem.call_range_1 (h _ _ (Option.some.inj he2 ▸ .range _ _ _ _ _ _ _ (IsRange.new ..)) ((Gr.push s _).trans (Gr.tok _ _))))
  | _ => exact no_some he
theorem blt2_ok (hh : A.handled = Option.none) {f : PySem.Str} {a b : Int} {t u : Tok} {c : MV} (he : blt2 f a b = some c)
    (h : ∀ r s', VR F s'.heap r c → Gr s s' → Q r s') : wpAny (model prg F.w) A (call (bltVal f) [.int a t, .int b u]) Q E s := by
  refine Classical.byContradiction fun no => ?_
  unfold blt2 at he
  cases q : (f == "min") with
  | true =>
    rw [q] at he
    have e := Option.some.inj he
    obtain rfl := beq_str q
    refine no (min_two_ints hh fun h' tk hk => ?_)
    by_cases hc : b < a
    · rw [if_pos hc] at e ⊢; exact h _ _ (e ▸ .int b u) ⟨hk, rfl, rfl⟩
    · rw [if_neg hc] at e ⊢; exact h _ _ (e ▸ .int a t) ⟨hk, rfl, rfl⟩
  | false =>
    rw [q, cond_false] at he
    cases q' : (f == "max") with
    | true =>
      rw [q'] at he
      have e := Option.some.inj he
      obtain rfl := beq_str q'
      refine no (max_two_ints hh fun h' tk hk => ?_)
      by_cases hc : b > a
      · rw [if_pos hc] at e ⊢; exact h _ _ (e ▸ .int b u) ⟨hk, rfl, rfl⟩
      · rw [if_neg hc] at e ⊢; exact h _ _ (e ▸ .int a t) ⟨hk, rfl, rfl⟩
    | false =>
      rw [q', cond_false] at he
      obtain ⟨q1, he2⟩ := cond_some he
      obtain rfl := beq_str (Bool.and_eq_true_iff.mp (Bool.and_eq_true_iff.mp q1).1).1
      exact no (PySem.call_range_2 (h _ _ (Option.some.inj he2 ▸ .range _ _ _ _ _ _ _ (IsRange.new ..)) ((Gr.push s _).trans (Gr.tok _ _))))
theorem blt3_ok (hp : PySem.PylongRoom (model prg F.w) A s) {f : PySem.Str} {a b c' : Int} {t u v : Tok} {c : MV} (he : blt3 f a b c' = some c)
    (h : ∀ r s', VR F s'.heap r c → Gr s s' → Q r s') : wpAny (model prg F.w) A (call (bltVal f) [.int a t, .int b u, .int c' v]) Q E s := by
  obtain ⟨q, he2⟩ := cond_some he
  obtain ⟨q, q4⟩ := Bool.and_eq_true_iff.mp q
  obtain rfl := beq_str (Bool.and_eq_true_iff.mp (Bool.and_eq_true_iff.mp q).1).1
  obtain rfl := eq_of_beq q4
  exact PySem.call_range_3 (by decide) (h _ _ (Option.some.inj he2 ▸ .range _ _ _ _ _ _ _ (IsRange.new ..)) ((Gr.push s _).trans (Gr.tok _ _))) (.inr hp)
theorem blt_ok (hh : A.handled = Option.none) (hp : PySem.PylongRoom (model prg F.w) A s) {f : PySem.Str} {as : List MV} {us : List Value} {c : MV} (_ : bltNames.contains f = true) (he : blt f as = some c) (x : VRs F s.heap us as)
    (h : ∀ r s', VR F s'.heap r c → Gr s s' → Q r s') : wpAny (model prg F.w) A (call (bltVal f) us) Q E s := by
  refine Classical.byContradiction fun no => ?_
  rcases as with _ | ⟨a, _ | ⟨b, _ | ⟨d, _ | _⟩⟩⟩
  · exact no_some he
  · obtain ⟨u, rfl, k⟩ := x.one
    exact no (blt1_ok he k h)
  · obtain ⟨u, v, rfl, k, k2⟩ := x.two
    obtain ⟨i, j, rfl, rfl, he⟩ := int2_inv he
    obtain ⟨t, rfl⟩ := k.inv
    obtain ⟨t2, rfl⟩ := k2.inv
    exact no (blt2_ok hh he h)
  · obtain ⟨u, v, w, rfl, k, k2, k3⟩ := x.three
    obtain ⟨i, j, rfl, rfl, he⟩ := int2_inv he
    obtain ⟨m, rfl, he⟩ := int1_inv he
    obtain ⟨t, rfl⟩ := k.inv
    obtain ⟨t2, rfl⟩ := k2.inv
    obtain ⟨t3, rfl⟩ := k3.inv
    exact no (blt3_ok hp he h)
  · exact no_some he

theorem ends_spec (x y : PySem.Str) : Txt.endswith x y = endsL x.cps.toList y.cps.toList := by
  unfold Txt.endswith endsL
  rw [StrLaws.subAt_eq]
  have e1 : x.length = x.cps.toList.length := by simp [PySem.Str.length]
  have e2 : y.length = y.cps.toList.length := by simp [PySem.Str.length]
  rw [e1, e2]
  by_cases h : y.cps.toList.length ≤ x.cps.toList.length
  · have : List.take y.cps.toList.length (List.drop (x.cps.toList.length - y.cps.toList.length) x.cps.toList) = List.drop (x.cps.toList.length - y.cps.toList.length) x.cps.toList :=
      List.take_of_length_le (by rw [List.length_drop]; omega)
    rw [this]; simp [h]
  · rw [Nat.zero_add, decide_eq_false h]; rfl

theorem meth_ok {x m : PySem.Str} {t : Tok} {as : List MV} {us : List Value} {c : MV} (he : strMeth x m as = some c) (y : VRs F s.heap us as)
    (h : ∀ r s', VR F s'.heap r c → Gr s s' → Q r s') : m = "endswith" ∧ wpAny (model prg F.w) A (call (.builtin "str.endswith") (.str x t :: us)) Q E s := by
  rcases as with _ | ⟨a, _ | _⟩
  · exact no_some he
  · obtain ⟨u, rfl, k⟩ := y.one
    cases a with
    | str w =>
      obtain ⟨t', rfl, z⟩ := k.inv
      obtain ⟨q, he⟩ := cond_some he
      refine ⟨beq_str q, PySem.SC.endswith ?_⟩
      rw [ends_spec]
      exact h _ _ (Option.some.inj he ▸ .bool _) (Gr.refl s)
    | _ => exact no_some he
  · exact no_some he
end
end Nor
end

section
open PySem PySem.W PyProof.Rows PySem.Calls
set_option Elab.async false
set_option maxRecDepth 100000
namespace Nor
section
variable {F : Fx} {T : Tab} {Φ : CallT} {k : Nat} {A : Around} {E : Value → Shared → Prop} {s : Shared} {Q : Value → Shared → Prop}

theorem strsAre_get : ∀ {vs : List Value} {xs : List PySem.Str} {i : Nat} {x : PySem.Str}, StrsAre vs xs → xs[i]? = some x → ∃ t, vs[i]? = some (.str x t)
  | _, _, _, _, .nil, e => by simp at e
  | _, _, 0, _, .cons y t h, e => by simp at e; subst e; exact ⟨t, rfl⟩
  | _, _, i + 1, _, .cons y t h, e => by simp at e; obtain ⟨u, q⟩ := strsAre_get h e; exact ⟨u, by simpa using q⟩
theorem strsAre_len : ∀ {vs : List Value} {xs : List PySem.Str}, StrsAre vs xs → vs.length = xs.length
  | _, _, .nil => rfl
  | _, _, .cons _ _ h => by rw [List.length_cons, List.length_cons, strsAre_len h]
theorem all_range_eq : ∀ (xs ys : List PySem.Str), xs.length = ys.length → ((List.range xs.length).all fun i => xs.getD i "" == ys.getD i "") = (xs == ys) := by
  intro xs ys h
  rw [Bool.eq_iff_iff, List.all_eq_true, beq_iff_eq]
  constructor
  · intro q
    refine List.ext_getElem h fun i h1 h2 => ?_
    have := q i (List.mem_range.mpr h1)
    simpa [h1, h2] using this
  · rintro rfl i _; simp

theorem list_eq_ok (hu : A.units < cLine) (a b : Addr) (vs ws : List Value) (xs ys : List PySem.Str) (ha : s.heap.IsList a vs.toArray) (hb : s.heap.IsList b ws.toArray) (x : StrsAre vs xs) (y : StrsAre ws ys)
    (h : ∀ s', Gr s s' → Q (.bool (xs == ys)) s') : wpAny (model prg F.w) A (compareOp .Eq (.ref a) (.ref b)) Q E s := by
  have l1 := strsAre_len x
  have l2 := strsAre_len y
  by_cases q : xs.length = ys.length
  · refine PySem.SeqAt.eq_listAt (e := fun i => xs.getD i "" == ys.getD i "") ha hb (by simp; omega) hu (fun j h1 h2 => ?_) ?_
    · have j1 : j < xs.length := by simpa [l1] using h1
      have j2 : j < ys.length := by omega
      obtain ⟨t, e1⟩ := strsAre_get x (List.getElem?_eq_getElem j1)
      obtain ⟨u, e2⟩ := strsAre_get y (List.getElem?_eq_getElem j2)
      have f1 : vs.toArray[j] = .str xs[j] t := by
        obtain ⟨p, q⟩ := List.getElem?_eq_some_iff.mp e1; simpa using q
      have f2 : ws.toArray[j] = .str ys[j] u := by
        obtain ⟨p, q⟩ := List.getElem?_eq_some_iff.mp e2; simpa using q
      rw [f1, f2]
      have g1 : xs.getD j "" = xs[j] := by simp [j1]
      have g2 : ys.getD j "" = ys[j] := by simp [j2]
      show PySem.SeqAt.EqAt _ _ _ _ (xs.getD j "" == ys.getD j "")
      rw [g1, g2]
      exact fun prog w E Q h => eqGives_str _ _ _ _ prog w _ E s Q h
    · rw [show vs.toArray.size = xs.length by simp [l1], all_range_eq xs ys q]
      exact h s (Gr.refl s)
  · refine PySem.SeqAt.eq_list_lengthsAt ha hb (by simp; omega) hu ?_
    have : (xs == ys) = false := by
      rw [beq_eq_false_iff_ne]; exact fun e => q (by rw [e])
    rw [← this]; exact h s (Gr.refl s)

theorem kindOf_eq {env : Env} {ns : List (PySem.Str × NameKind)} {L : Addr} (h : EnvOk env ns L) (x : PySem.Str) : env.kindOf x = ns.lookup x := by unfold Env.kindOf; rw [h.names]
theorem loc_spec {ns : List (PySem.Str × NameKind)} {x : PySem.Str} (h : isLoc ns x = true) : ns.lookup x = some .local ∧ (x == ("__debug__" : PySem.Str)) = false := by
  unfold isLoc at h
  obtain ⟨a, b⟩ := Bool.and_eq_true_iff.mp h
  exact ⟨by simpa using a, by simpa using b⟩
theorem glob_spec {ns : List (PySem.Str × NameKind)} {x : PySem.Str} (h : isGlob ns x = true) : ns.lookup x = some .globalImplicit ∧ (x == ("__debug__" : PySem.Str)) = false := by
  unfold isGlob at h
  obtain ⟨a, b⟩ := Bool.and_eq_true_iff.mp h
  exact ⟨by simpa using a, by simpa using b⟩

/-- a local, read -/
theorem name_loc {env : Env} {ns : List (PySem.Str × NameKind)} {L : Addr} {fs : List Addr} {ρ φ : Fld} {x : PySem.Str} {pos : Pos} {v : MV} (En : EnvOk env ns L) (I : Inv F L fs ρ φ s.heap) (hl : isLoc ns x = true) (he : get x ρ = some v)
    (h : ∀ u, VR F s.heap u v → Q u s) : wpAny (model prg F.w) A (eval (.Name x pos) env) Q E s := by
  obtain ⟨a, b⟩ := loc_spec hl
  obtain ⟨m, n, f⟩ := I.l
  obtain ⟨u, e, r⟩ := f x v he
  exact wpAny_Name (wpAny_loadName_local En.kind ((kindOf_eq En x).trans a) (En.loc ▸ n) e (h u r)) b
theorem name_glob (K : Facts F T) {env : Env} {ns : List (PySem.Str × NameKind)} {L : Addr} {fs : List Addr} {ρ φ : Fld} {x : PySem.Str} {pos : Pos} {u : Value} (En : EnvOk env ns L) (I : Inv F L fs ρ φ s.heap) (hl : isGlob ns x = true) (he : F.mg x = some u)
    (h : Q u s) : wpAny (model prg F.w) A (eval (.Name x pos) env) Q E s := by
  obtain ⟨a, b⟩ := glob_spec hl
  exact Name_function_global En.kind ((kindOf_eq En x).trans a) (loadGlobal_global (En.glob ▸ K.g.keeps I.base) he h) b
theorem name_blt (K : Facts F T) {env : Env} {ns : List (PySem.Str × NameKind)} {L : Addr} {fs : List Addr} {ρ φ : Fld} {x : PySem.Str} {pos : Pos} (En : EnvOk env ns L) (I : Inv F L fs ρ φ s.heap) (hl : isGlob ns x = true) (he : bltNames.contains x = true)
    (h : Q (bltVal x) s) : wpAny (model prg F.w) A (eval (.Name x pos) env) Q E s := by
  obtain ⟨a, b⟩ := glob_spec hl
  obtain ⟨p, q⟩ := K.blt x (List.contains_iff_mem.mp he)
  exact Name_function_global En.kind ((kindOf_eq En x).trans a) (loadGlobal_builtin (En.glob ▸ K.g.keeps I.base) p (En.blt ▸ K.b.keeps I.base) q h) b

/-- the expressions' promise at a depth -/
noncomputable def EOk (F : Fx) (T : Tab) (Φ : CallT) (k n : Nat) : Prop :=
  ∀ {ns : List (PySem.Str × NameKind)} {ρ φ : Fld} {e : Expr} {v : MV} {φ' : Fld}, evE T Φ ns ρ n φ e = some (v, φ') →
  ∀ {A : Around} {env : Env} {L : Addr} {envs : List Env} {fs : List Addr} {E Q : Value → Shared → Prop} {s : Shared}, Room A k → Ard A (env :: envs) (L :: fs) → EnvOk env ns L → Inv F L fs ρ φ s.heap →
    (∀ u s', VR F s'.heap u v → PV F L fs ρ φ' s s' → Q u s') → wpAny (model prg F.w) A (eval e env) Q E s
/-- a simple test's -/
noncomputable def TOk (F : Fx) (T : Tab) (Φ : CallT) (k n : Nat) : Prop :=
  ∀ {ns : List (PySem.Str × NameKind)} {ρ φ : Fld} {e : Expr} {v : MV} {b : Bool} {φ' : Fld}, simpleT e = true → evE T Φ ns ρ n φ e = some (v, φ') → truth v = some b →
  ∀ {A : Around} {env : Env} {L : Addr} {envs : List Env} {fs : List Addr} {E : Value → Shared → Prop} {Q : Bool → Shared → Prop} {s : Shared}, Room A k → Ard A (env :: envs) (L :: fs) → EnvOk env ns L → Inv F L fs ρ φ s.heap →
    (∀ s', PV F L fs ρ φ' s s' → Q b s') → wpAny (model prg F.w) A (isTrue e env (eval e env)) Q E s

theorem star_plain {n : Nat} {ns : List (PySem.Str × NameKind)} {ρ φ : Fld} {e : Expr} {r : MV × Fld} (h : evE T Φ ns ρ n φ e = some r) (env : Env) (rest : List Expr) : starEach (e :: rest) env = (false, eval e env) :: starEach rest env := by
  cases e <;> first | rfl | (cases n <;> exact no_some h)

theorem soundL {n : Nat} (ih : EOk F T Φ k n) {ns : List (PySem.Str × NameKind)} {ρ : Fld} {env : Env} {L : Addr} {envs : List Env} {fs : List Addr} (hr : Room A k) (ar : Ard A (env :: envs) (L :: fs)) (En : EnvOk env ns L) (pos : Pos) :
    ∀ (es : List Expr) {φ φ' : Fld} {vs : List MV} {s : Shared} {Q : List Value → Shared → Prop}, evL (evE T Φ ns ρ n) φ es = some (vs, φ') → Inv F L fs ρ φ s.heap →
    (∀ us s', VRs F s'.heap us vs → PV F L fs ρ φ' s s' → Q us s') → wpAny (model prg F.w) A (spliced (backTo pos (starEach es env))) Q E s
  | [], φ, φ', vs, s, Q, he, I, h => by
    cases he
    exact wpAny_items_nil (h _ _ .nil (.of_gr I (Gr.refl s)))
  | e :: r, φ, φ', vs, s, Q, he, I, h => by
    obtain ⟨⟨v, φ1⟩, e1, he⟩ := Option.bind_eq_some_iff.mp he
    obtain ⟨⟨ws, φ2⟩, e2, he⟩ := Option.map_eq_some_iff.mp he
    cases he
    refine wpAny_items_cons (ih e1 hr ar En I fun u s1 x P1 => ?_) (star_plain e1 env r)
    refine soundL ih hr ar En pos r e2 P1.inv fun us s2 xs P2 => ?_
    exact h _ _ (.cons (P2.vr P1.inv x) xs) (P1.trans P2)

theorem any_star {n : Nat} {ns : List (PySem.Str × NameKind)} {ρ : Fld} (env : Env) (pos : Pos) : ∀ (es : List Expr) {φ : Fld} {r : List MV × Fld}, evL (evE T Φ ns ρ n) φ es = some r → ((backTo pos (starEach es env)).any (·.1)) = false
  | [], _, _, _ => rfl
  | e :: r, φ, _, he => by
    obtain ⟨⟨v, φ1⟩, e1, he⟩ := Option.bind_eq_some_iff.mp he
    obtain ⟨⟨ws, φ2⟩, e2, he⟩ := Option.map_eq_some_iff.mp he
    rw [star_plain e1 env r]
    show (false || (backTo pos (starEach r env)).any (·.1)) = false
    rw [any_star env pos r e2]; rfl

/-- arguments, then the call -/
theorem soundA {n : Nat} (ih : EOk F T Φ k n) {ns : List (PySem.Str × NameKind)} {ρ φ φ' : Fld} {env : Env} {L : Addr} {envs : List Env} {fs : List Addr} (hr : Room A k) (ar : Ard A (env :: envs) (L :: fs)) (En : EnvOk env ns L) {pos : Pos}
    {es : List Expr} {vs : List MV} {f : Value} {first : List Value} {P : Heap → Prop} (he : evL (evE T Φ ns ρ n) φ es = some (vs, φ')) (I : Inv F L fs ρ φ s.heap)
    (hk : ∀ h, P h → ∃ k, (k = Keeper.frame ∨ k = Keeper.machine ∨ k = Keeper.boundFrame) ∧ Looks (model prg F.w) h (keeperOf f) k)
    (h : ∀ us s', VRs F s'.heap us vs → PV F L fs ρ φ' s s' → P s'.heap ∧ wpAny (model prg F.w) A (call f (first ++ us)) Q E s') :
    wpAny (model prg F.w) A (callWith pos f first (backTo pos (starEach es env)) []) Q E s := by
  refine callWith_of (P := P) (by rw [any_star env pos es he]; rfl) hk ?_
  cases es with
  | nil =>
    cases he
    exact evalArgs_nil3 (h _ _ .nil (.of_gr I (Gr.refl s)))
  | cons e r =>
    obtain ⟨⟨v, φ1⟩, e1, _⟩ := Option.bind_eq_some_iff.mp he
    have sp := star_plain e1 env r
    have q := soundL (E := E) (s := s) (Q := fun vs s' => P s'.heap ∧ wpAny (model prg F.w) A (call f (first ++ vs)) Q E s') ih hr ar En pos (e :: r) he I fun us s' x p => h us s' x p
    rw [sp] at q ⊢
    exact evalArgs_plain q
end
end Nor
end

section
open PySem PySem.W PyProof.Rows PySem.Calls
set_option Elab.async false
set_option maxRecDepth 100000
namespace Nor
section
variable {F : Fx} {T : Tab} {Φ : CallT} {k n : Nat} {A : Around} {E : Value → Shared → Prop} {s : Shared} {Q : Value → Shared → Prop}
  {ns : List (PySem.Str × NameKind)} {ρ φ φ' : Fld} {env : Env} {L : Addr} {envs : List Env} {fs : List Addr} {v : MV}

theorem room_zero (h : Room A k) : Room A 0 := ⟨by have := h.1; omega, by have := h.2; omega⟩
theorem room_units (h : Room A k) : A.units < cLine := by have := h.2; omega

theorem cmpParts (ih : EOk F T Φ k n) (hr : Room A k) (ar : Ard A (env :: envs) (L :: fs)) (En : EnvOk env ns L) (I : Inv F L fs ρ φ s.heap) {l r : Expr} {op : CmpOp}
    (he : (bif behindInMarks op r then Option.none else (evE T Φ ns ρ n φ l).bind fun (a, φ1) => (evE T Φ ns ρ n φ1 r).bind fun (b, φ2) => (cmpMV op a b).map (·, φ2)) = some (v, φ')) (h : ∀ u s', VR F s'.heap u v → PV F L fs ρ φ' s s' → Q u s') :
    behindInMarks op r = false ∧ wpAny (model prg F.w) A (eval l env) (fun a s₁ => wpAny (model prg F.w) A (eval r env) (fun b s₂ => wpAny (model prg F.w) A (compareOp op a b) Q E s₂) E s₁) E s := by
  obtain ⟨q, he⟩ := cond_some' he
  obtain ⟨⟨a, φ1⟩, e1, he⟩ := Option.bind_eq_some_iff.mp he
  obtain ⟨⟨b, φ2⟩, e2, he⟩ := Option.bind_eq_some_iff.mp he
  obtain ⟨c, e3, he⟩ := Option.map_eq_some_iff.mp he
  cases he
  refine ⟨q, ih e1 hr ar En I fun u s1 x P1 => ih e2 hr ar En P1.inv fun w s2 y P2 => ?_⟩
  exact cmp_ok P2.inv.base e3 (P2.vr P1.inv x) y (fun a b vs ws xs ys i1 i2 z1 z2 h' => list_eq_ok (room_units hr) a b vs ws xs ys i1 i2 z1 z2 h') fun r s3 z g => h r s3 z ((P1.trans P2).trans (.of_gr P2.inv g))

theorem case_name (K : Facts F T) (En : EnvOk env ns L) (I : Inv F L fs ρ φ s.heap) {x : PySem.Str} {pos : Pos}
    (he : (bif isLoc ns x then (get x ρ).map (·, φ) else bif isGlob ns x then (T.glob x).map (·, φ) else Option.none) = some (v, φ')) (h : ∀ u s', VR F s'.heap u v → PV F L fs ρ φ' s s' → Q u s') : wpAny (model prg F.w) A (eval (.Name x pos) env) Q E s := by
  cases q : isLoc ns x with
  | true =>
    rw [q] at he
    obtain ⟨w, e, he⟩ := Option.map_eq_some_iff.mp he
    cases he
    exact name_loc En I q e fun u r => h u s r (.of_gr I (Gr.refl s))
  | false =>
    rw [q] at he
    simp only [cond_false] at he
    obtain ⟨q', he⟩ := cond_some he
    obtain ⟨w, e, he⟩ := Option.map_eq_some_iff.mp he
    cases he
    obtain ⟨u, e1, r⟩ := K.glob x _ e
    exact name_glob K En I q' e1 (h u s (r.up I.base) (.of_gr I (Gr.refl s)))

theorem attr_step {c a : PySem.Str} {p pos : Pos} (h : wpAny (model prg F.w) A (eval (.Name c p) env) (fun o s₁ => wpAny (model prg F.w) A (getAttr o a true) Q E s₁) E s) :
    wpAny (model prg F.w) A (eval (.Attribute (.Name c p) a pos) env) Q E s := by
  rw [arm_eval_Attribute]
  refine wpAny_bind (wpAny_mono (show wpAny (model prg F.w) A (attributeBase (.Name c p) a env (eval (.Name c p) env)) _ E s from h) (fun o s₁ h₁ => ?_) fun _ _ x => x)
  refine wpAny_bind (wpAny_standAt (wpAny_bind (wpAny_holding (wpAny_mono h₁ (fun r s₂ h₂ => ?_) fun _ _ x => x))))
  exact wpAny_bind (wpAny_pure (wpAny_pure h₂))

theorem case_attr (K : Facts F T) (En : EnvOk env ns L) (I : Inv F L fs ρ φ s.heap) {c a : PySem.Str} {p pos : Pos}
    (he : (bif isLoc ns c then (get c ρ).bind fun o => (match o with
          | .self => bif fieldNames.contains a then get a φ else Option.none
          | .am s i r => amAttr s i r a
          | _ => Option.none).map (·, φ)
      else bif isGlob ns c && c == "NorwegianStemmer" then (T.cls a).map (·, φ) else Option.none) = some (v, φ')) (h : ∀ u s', VR F s'.heap u v → PV F L fs ρ φ' s s' → Q u s') : wpAny (model prg F.w) A (eval (.Attribute (.Name c p) a pos) env) Q E s := by
  refine attr_step ?_
  cases q : isLoc ns c with
  | true =>
    rw [q] at he
    simp only [cond_true] at he
    obtain ⟨o, e1, he⟩ := Option.bind_eq_some_iff.mp he
    obtain ⟨w, e2, he⟩ := Option.map_eq_some_iff.mp he
    cases he
    refine name_loc En I q e1 fun u r => ?_
    have ri := r.inv
    clear r
    cases o with
    | self =>
      obtain rfl := ri
      obtain ⟨q1, e3⟩ := cond_some e2
      exact get_fld K I.c (List.contains_iff_mem.mp q1) e3 fun u r => h u _ r (.of_gr I (Gr.tok s _))
    | am x i j =>
      obtain ⟨c, rfl, kk⟩ := ri
      obtain ⟨u, r, g⟩ := K.am c x i j kk a _ e2
      exact g _ _ _ _ _ I.base (h u _ (r.up I.base) (.of_gr I (Gr.tok s _)))
    | _ => exact no_some e2
  | false =>
    rw [q] at he
    simp only [cond_false] at he
    obtain ⟨q1, he⟩ := cond_some he
    obtain ⟨w, e2, he⟩ := Option.map_eq_some_iff.mp he
    cases he
    obtain ⟨q2, q3⟩ := Bool.and_eq_true_iff.mp q1
    cases beq_str q3
    refine name_glob K En I q2 K.cls ?_
    obtain ⟨u, r, g⟩ := K.clsAt a _ e2
    exact g _ _ _ _ _ I.base (h u _ (r.up I.base) (.of_gr I (Gr.tok s _)))

theorem case_const (I : Inv F L fs ρ φ s.heap) {c : Const} {kk : Nat} {pos : Pos}
    (he : (constMV c).map (·, φ) = some (v, φ')) (h : ∀ u s', VR F s'.heap u v → PV F L fs ρ φ' s s' → Q u s') : wpAny (model prg F.w) A (eval (.Constant c kk pos) env) Q E s := by
  obtain ⟨w, e, he⟩ := Option.map_eq_some_iff.mp he
  cases he
  unfold constMV at e
  split at e
  · cases e; exact wpAny_Constant_none (h _ _ .none (.of_gr I (Gr.refl s)))
  · cases e; exact wpAny_Constant_bool (h _ _ (.bool _) (.of_gr I (Gr.refl s)))
  · cases e; exact wpAny_Constant_int (h _ _ (.int _ _) (.of_gr I (Gr.tok s _)))
  · obtain ⟨q, e⟩ := cond_some e
    cases e
    have := sizeLine_big
    exact wpAny_Constant_str (h _ _ (.str _ _ (Nat.le_trans (Nat.le_of_ble_eq_true q) this)) (.of_gr I (Gr.tok s _)))
  · cases e

theorem strMeth_name {x m : PySem.Str} {as : List MV} {c : MV} (he : strMeth x m as = some c) : m = "endswith" := by
  rcases as with _ | ⟨a, _ | _⟩
  · exact no_some he
  · cases a with
    | str w => exact beq_str (cond_some he).1
    | _ => exact no_some he
  · exact no_some he

/-- a method's call, stepped to the call -/
theorem meth_step {o : Expr} {name : PySem.Str} {apos pos : Pos} {args : List Expr} (hl : (apos.endLine == pos.line) = true) (hn : isNameE o = true) (hs : ((backTo pos (starEach args env)).any (·.1)) = false) (hz : args.length ≤ 8)
    (h : wpAny (model prg F.w) A (eval o env) (fun ov s₁ => ∀ pl, wpAny (model prg F.w) A (getMethod ov name pl) (fun r s₂ => wpAny (model prg F.w) A (callWith pos r.1 r.2 (backTo pos (starEach args env)) []) Q E s₂) E s₁) E s) :
    wpAny (model prg F.w) A (eval (.Call (.Attribute o name apos) args [] pos) env) Q E s := by
  have hb : attributeBase o name env (eval o env) = eval o env := by cases o <;> first | rfl | (simp [isNameE] at hn)
  have hform : methodCallForm (args.length + ([] : List Keyword).length) (backTo pos (starEach args env)) (backToKw pos (keywordEach [] env)) = true := by
    unfold methodCallForm
    have : (backTo pos (starEach args env)).all (fun x => !x.1) = true := by
      rw [List.all_eq_true]
      intro x hx
      rw [List.any_eq_false] at hs
      simpa using hs x hx
    rw [this]
    show (true && true && decide (args.length + 0 + 0 < 30)) = true
    rw [decide_eq_true (by omega)]; rfl
  have hpos : methodCallPos true o env apos pos = pure pos := by unfold methodCallPos; simp [hl]
  rw [arm_eval_Call, hb]
  refine wpAny_bind (wpAny_mono h (fun ov s₁ h₁ => ?_) fun _ _ e => e)
  refine wpAny_bind (wpAny_standAt ?_)
  unfold methodCall
  rw [hform]
  refine wpAny_bind (wpAny_holding (wpAny_mono (h₁ _) (fun r s₂ h₂ => ?_) fun _ _ e => e))
  obtain ⟨f, first⟩ := r
  exact wpAny_bind (wpAny_of_eq hpos h₂)

theorem keeper_blt {id : String} {h : Heap} : ∃ k, (k = Keeper.frame ∨ k = Keeper.machine ∨ k = Keeper.boundFrame) ∧ Looks (model prg F.w) h (keeperOf (.builtin id)) k := ⟨.machine, .inr (.inl rfl), .of_pure rfl⟩
theorem keeper_bltVal {f : PySem.Str} {h : Heap} : ∃ k, (k = Keeper.frame ∨ k = Keeper.machine ∨ k = Keeper.boundFrame) ∧ Looks (model prg F.w) h (keeperOf (bltVal f)) k := by
  unfold bltVal
  cases f == "len" <;> cases f == "ord" <;> cases f == "chr" <;> cases f == "min" <;> cases f == "max" <;> exact ⟨.machine, .inr (.inl rfl), .of_pure rfl⟩
theorem keeper_fn {a : Addr} {o : Obj} {fd : FuncData} {h : Heap} (e : h.get? a = some o) (d : o.data = .func fd) : ∃ k, (k = Keeper.frame ∨ k = Keeper.machine ∨ k = Keeper.boundFrame) ∧ Looks (model prg F.w) h (keeperOf (.ref a)) k := by
  refine ⟨.frame, .inl rfl, (Looks.ld (part := Option.none) e).andThen ?_⟩
  rw [d]; exact .now

theorem case_callName (K : Facts F T) (C : CallOk F Φ k) (ih : EOk F T Φ k n) (hr : Room A k) (ar : Ard A (env :: envs) (L :: fs)) (En : EnvOk env ns L) (I : Inv F L fs ρ φ s.heap) {f : PySem.Str} {p pos : Pos} {as : List Expr}
    (he : (bif isGlob ns f && Nat.ble as.length 8 then
        (evL (evE T Φ ns ρ n) φ as).bind fun (vs, φ1) => bif bltNames.contains f then (blt f vs).map (·, φ1) else bif notSelf vs then Φ f vs φ1 else Option.none
      else Option.none) = some (v, φ')) (h : ∀ u s', VR F s'.heap u v → PV F L fs ρ φ' s s' → Q u s') : wpAny (model prg F.w) A (eval (.Call (.Name f p) as [] pos) env) Q E s := by
  obtain ⟨q, he⟩ := cond_some he
  obtain ⟨q1, q2⟩ := Bool.and_eq_true_iff.mp q
  obtain ⟨⟨vs, φ1⟩, e1, he⟩ := Option.bind_eq_some_iff.mp he
  dsimp only at he
  refine wpAny_Call_ofName ?_
  cases hb : bltNames.contains f with
  | true =>
    rw [hb] at he
    simp only [cond_true] at he
    obtain ⟨w, e2, he⟩ := Option.map_eq_some_iff.mp he
    cases he
    refine name_blt K En I q1 hb ?_
    refine soundA (P := fun _ => True) ih hr ar En e1 I (fun h _ => keeper_bltVal) fun us s1 x P1 => ⟨trivial, ?_⟩
    exact blt_ok ar.none (K.div _ _ _ _ P1.inv.base (room_zero hr) ar.fra En.gen En.co En.blt En.glob) hb e2 x fun r s2 y g => h r s2 y (P1.trans (.of_gr P1.inv g))
  | false =>
    rw [hb] at he
    simp only [cond_false] at he
    obtain ⟨q3, he⟩ := cond_some he
    obtain ⟨a, o, fd, ⟨ho, hd⟩, ad, call⟩ := C _ _ _ _ _ he
    have ad : F.mg f = some (.ref a) := by
      unfold AddrOf at ad
      split at ad
      · simp [notSelf] at q3
      · exact ad
    refine name_glob K En I q1 ad ?_
    refine soundA (P := fun h => h.get? a = some o) ih hr ar En e1 I (fun h e => keeper_fn e hd) fun us s1 x P1 => ⟨P1.inv.base _ _ ho, ?_⟩
    refine call A (env :: envs) (L :: fs) E Q s1 us hr ar P1.inv.c x fun u s2 y I2 kp sm => ?_
    have I' : Inv F L fs ρ φ' s2.heap := ⟨I2, P1.inv.l.kp kp P1.inv.c.dicts (fun m => P1.inv.c.nd (by rw [← List.mem_singleton.mp m]; exact .head _)), P1.inv.nL⟩
    exact h u s2 y (P1.trans ⟨I', kp, sm⟩)

theorem case_callMeth (K : Facts F T) (C : CallOk F Φ k) (ih : EOk F T Φ k n) (hr : Room A k) (ar : Ard A (env :: envs) (L :: fs)) (En : EnvOk env ns L) (I : Inv F L fs ρ φ s.heap) {o : Expr} {m : PySem.Str} {ap pos : Pos} {as : List Expr}
    (he : (bif ap.endLine == pos.line && Nat.ble as.length 8 && isNameE o then
        (evE T Φ ns ρ n φ o).bind fun (v, φ1) => (evL (evE T Φ ns ρ n) φ1 as).bind fun (vs, φ2) => match v with
          | .self => bif (get m φ1).isNone then Φ m (.self :: vs) φ2 else Option.none
          | .str s => (strMeth s m vs).map (·, φ2)
          | _ => Option.none
      else Option.none) = some (v, φ')) (h : ∀ u s', VR F s'.heap u v → PV F L fs ρ φ' s s' → Q u s') : wpAny (model prg F.w) A (eval (.Call (.Attribute o m ap) as [] pos) env) Q E s := by
  obtain ⟨q, he⟩ := cond_some he
  obtain ⟨q1, qn⟩ := Bool.and_eq_true_iff.mp q
  obtain ⟨ql, qz⟩ := Bool.and_eq_true_iff.mp q1
  obtain ⟨⟨w, φ1⟩, e1, he⟩ := Option.bind_eq_some_iff.mp he
  obtain ⟨⟨vs, φ2⟩, e2, he⟩ := Option.bind_eq_some_iff.mp he
  dsimp only at he
  refine meth_step ql qn (any_star env pos as e2) (Nat.le_of_ble_eq_true qz) (ih e1 hr ar En I fun u s1 x P1 pl => ?_)
  have xi := x.inv
  clear x
  cases w with
  | self =>
    obtain rfl := xi
    obtain ⟨q3, he⟩ := cond_some he
    obtain ⟨a, ob, fd, ⟨ho, hd⟩, ⟨a1, a2, a3⟩, call⟩ := C _ _ _ _ _ he
    obtain ⟨md, nd, _, f⟩ := P1.inv.c.dict
    obtain ⟨od, eo⟩ := dict_at nd.ns
    have IA : InstAt s1.heap F.x (instObj F.C F.dx) F.C (some od) := ⟨P1.inv.c.inst, rfl, rfl, eo⟩
    refine method_fn (K.X.keeps P1.inv.base) IA (plainGet_of a3).1 (plainGet_of a3).2 a1 (beq_iff_eq.mp a2) ?_ ?_
    · show (lookIn m od).map _ = _
      rw [lookIn_ns nd.ns eo, (f m).2 (by simpa using q3)]; rfl
    · refine soundA (P := fun h => h.get? a = some ob) ih hr ar En e2 P1.inv (fun h e => keeper_fn e hd) fun us s2 x P2 => ⟨P2.inv.base _ _ ho, ?_⟩
      refine call A (env :: envs) (L :: fs) E Q s2 (.ref F.x :: us) hr ar P2.inv.c (.cons .self x) fun u s3 y I3 kp sm => ?_
      have I' : Inv F L fs ρ φ' s3.heap := ⟨I3, P2.inv.l.kp kp P2.inv.c.dicts (fun m => P2.inv.c.nd (by rw [← List.mem_singleton.mp m]; exact .head _)), P2.inv.nL⟩
      exact h u s3 y ((P1.trans P2).trans ⟨I', kp, sm⟩)
  | str st =>
    obtain ⟨t, rfl, z⟩ := xi
    obtain ⟨w, e3, he⟩ := Option.map_eq_some_iff.mp he
    cases he
    have hm : m = "endswith" := strMeth_name e3
    subst hm
    refine PySem.GM.endswith ?_
    refine soundA (P := fun _ => True) ih hr ar En e2 P1.inv (fun h _ => keeper_blt) fun us s2 x P2 => ⟨trivial, ?_⟩
    exact (meth_ok (t := t) e3 x fun r s3 y g => h r s3 y ((P1.trans P2).trans (.of_gr P2.inv g))).2
  | _ => exact no_some he

theorem case_bool (ih : EOk F T Φ k n) (hr : Room A k) (ar : Ard A (env :: envs) (L :: fs)) (En : EnvOk env ns L) (I : Inv F L fs ρ φ s.heap) {op : PySem.BoolOp} {x y : Expr} {pos : Pos}
    (he : ((evE T Φ ns ρ n φ x).bind fun (a, φ1) => (truth a).bind fun b => bif (match op with | .And => b | .Or => !b) then evE T Φ ns ρ n φ1 y else some (a, φ1)) = some (v, φ')) (h : ∀ u s', VR F s'.heap u v → PV F L fs ρ φ' s s' → Q u s') : wpAny (model prg F.w) A (eval (.BoolOp op [x, y] pos) env) Q E s := by
  obtain ⟨⟨a, φ1⟩, e1, he⟩ := Option.bind_eq_some_iff.mp he
  obtain ⟨b, e2, he⟩ := Option.bind_eq_some_iff.mp he
  cases op with
  | And =>
    refine wpAny_And2 (ih e1 hr ar En I fun u s1 xx P1 => truth_ok e2 xx fun s2 g => ?_)
    have P2 : PV F L fs ρ φ1 s1 s2 := .of_gr P1.inv g
    cases b with
    | true => rw [if_pos rfl]; exact ih he hr ar En P2.inv fun u s3 y P3 => h u s3 y ((P1.trans P2).trans P3)
    | false => cases he; rw [if_neg Bool.false_ne_true]; exact h u s2 (P2.vr P1.inv xx) (P1.trans P2)
  | Or =>
    refine wpAny_Or2 (ih e1 hr ar En I fun u s1 xx P1 => truth_ok e2 xx fun s2 g => ?_)
    have P2 : PV F L fs ρ φ1 s1 s2 := .of_gr P1.inv g
    cases b with
    | false => rw [if_neg Bool.false_ne_true]; exact ih he hr ar En P2.inv fun u s3 y P3 => h u s3 y ((P1.trans P2).trans P3)
    | true => cases he; rw [if_pos rfl]; exact h u s2 (P2.vr P1.inv xx) (P1.trans P2)

theorem case_not (ih : EOk F T Φ k n) (hr : Room A k) (ar : Ard A (env :: envs) (L :: fs)) (En : EnvOk env ns L) (I : Inv F L fs ρ φ s.heap) {x : Expr} {pos : Pos}
    (he : ((evE T Φ ns ρ n φ x).bind fun (a, φ1) => (truth a).map fun b => (MV.bool (!b), φ1)) = some (v, φ')) (h : ∀ u s', VR F s'.heap u v → PV F L fs ρ φ' s s' → Q u s') : wpAny (model prg F.w) A (eval (.UnaryOp .Not x pos) env) Q E s := by
  obtain ⟨⟨a, φ1⟩, e1, he⟩ := Option.bind_eq_some_iff.mp he
  obtain ⟨b, e2, he⟩ := Option.map_eq_some_iff.mp he
  cases he
  refine wpAny_UnaryOp (ih e1 hr ar En I fun u s1 xx P1 => not_value (truth_ok e2 xx fun s2 g => ?_))
  exact h _ _ (.bool _) (P1.trans (.of_gr P1.inv g))

theorem case_neg (ih : EOk F T Φ k n) (hr : Room A k) (ar : Ard A (env :: envs) (L :: fs)) (En : EnvOk env ns L) (I : Inv F L fs ρ φ s.heap) {x : Expr} {pos : Pos}
    (he : ((evE T Φ ns ρ n φ x).bind fun (a, φ1) => match a with
        | .int i => some (MV.int (-i), φ1)
        | _ => Option.none) = some (v, φ')) (h : ∀ u s', VR F s'.heap u v → PV F L fs ρ φ' s s' → Q u s') : wpAny (model prg F.w) A (eval (.UnaryOp .USub x pos) env) Q E s := by
  obtain ⟨⟨a, φ1⟩, e1, he⟩ := Option.bind_eq_some_iff.mp he
  dsimp only at he
  refine wpAny_UnaryOp (ih e1 hr ar En I fun u s1 xx P1 => ?_)
  have xi := xx.inv
  cases a with
  | int i => obtain ⟨t, rfl⟩ := xi; cases he; exact PyProof.Rows.neg_int (h _ _ (.int _ _) (P1.trans (.of_gr P1.inv (Gr.tok s1 _))))
  | _ => exact no_some he

theorem case_bin (K : Facts F T) (ih : EOk F T Φ k n) (hr : Room A k) (ar : Ard A (env :: envs) (L :: fs)) (En : EnvOk env ns L) (I : Inv F L fs ρ φ s.heap) {l r : Expr} {op : Operator} {pos : Pos}
    (he : ((evE T Φ ns ρ n φ l).bind fun (a, φ1) => (evE T Φ ns ρ n φ1 r).bind fun (b, φ2) => (binMV op a b).map (·, φ2)) = some (v, φ')) (h : ∀ u s', VR F s'.heap u v → PV F L fs ρ φ' s s' → Q u s') : wpAny (model prg F.w) A (eval (.BinOp l op r pos) env) Q E s := by
  obtain ⟨⟨a, φ1⟩, e1, he⟩ := Option.bind_eq_some_iff.mp he
  obtain ⟨⟨b, φ2⟩, e2, he⟩ := Option.bind_eq_some_iff.mp he
  obtain ⟨c, e3, he⟩ := Option.map_eq_some_iff.mp he
  cases he
  refine wpAny_BinOp (ih e1 hr ar En I fun u s1 x P1 => ih e2 hr ar En P1.inv fun w s2 y P2 => ?_)
  exact bin_ok (K.div _ _ _ _ P2.inv.base (room_zero hr) ar.fra En.gen En.co En.blt En.glob) e3 (P2.vr P1.inv x) y fun r s3 z g => h r s3 z ((P1.trans P2).trans (.of_gr P2.inv g))

theorem case_ifexp (ih : EOk F T Φ k n) (it : TOk F T Φ k n) (hr : Room A k) (ar : Ard A (env :: envs) (L :: fs)) (En : EnvOk env ns L) (I : Inv F L fs ρ φ s.heap) {t b o : Expr} {pos : Pos}
    (he : (bif !simpleT t then Option.none else (evE T Φ ns ρ n φ t).bind fun (a, φ1) => (truth a).bind fun c => bif c then evE T Φ ns ρ n φ1 b else evE T Φ ns ρ n φ1 o) = some (v, φ')) (h : ∀ u s', VR F s'.heap u v → PV F L fs ρ φ' s s' → Q u s') : wpAny (model prg F.w) A (eval (.IfExp t b o pos) env) Q E s := by
  obtain ⟨q, he⟩ := cond_some' he
  obtain ⟨⟨a, φ1⟩, e1, he⟩ := Option.bind_eq_some_iff.mp he
  obtain ⟨c, e2, he⟩ := Option.bind_eq_some_iff.mp he
  refine wpAny_IfExp (it (by simpa using q) e1 e2 hr ar En I fun s1 P1 => ?_)
  cases c with
  | true => rw [if_pos rfl]; exact ih he hr ar En P1.inv fun u s2 y P2 => h u s2 y (P1.trans P2)
  | false => rw [if_neg Bool.false_ne_true]; exact ih he hr ar En P1.inv fun u s2 y P2 => h u s2 y (P1.trans P2)

theorem case_list (ih : EOk F T Φ k n) (hr : Room A k) (ar : Ard A (env :: envs) (L :: fs)) (En : EnvOk env ns L) (I : Inv F L fs ρ φ s.heap) {es : List Expr} {pos : Pos}
    (he : (bif !Nat.ble es.length 1000 then Option.none else (evL (evE T Φ ns ρ n) φ es).map fun (vs, φ1) => (MV.list vs, φ1)) = some (v, φ')) (h : ∀ u s', VR F s'.heap u v → PV F L fs ρ φ' s s' → Q u s') : wpAny (model prg F.w) A (eval (.List es pos) env) Q E s := by
  obtain ⟨q, he⟩ := cond_some' he
  obtain ⟨⟨vs, φ1⟩, e1, he⟩ := Option.map_eq_some_iff.mp he
  cases he
  have len : ∀ (es : List Expr) {φ : Fld} {r : List MV × Fld}, evL (evE T Φ ns ρ n) φ es = some r → r.1.length = es.length := by
    intro es
    induction es with
    | nil => intro φ r e; cases e; rfl
    | cons e r ih =>
      intro φ x e'
      obtain ⟨⟨v, φ1⟩, f1, e'⟩ := Option.bind_eq_some_iff.mp e'
      obtain ⟨⟨ws, φ2⟩, f2, e'⟩ := Option.map_eq_some_iff.mp e'
      cases e'
      rw [List.length_cons, List.length_cons, ← ih f2]
  have hz : sizeLine = 16777216 := by decide
  have q : es.length ≤ 1000 := Nat.le_of_ble_eq_true (by simpa using q)
  have l0 := len es e1
  refine wpAny_List (soundL ih hr ar En pos es e1 I fun us s1 x P1 => ?_)
  have l1 := x.length
  replace l0 : vs.length = es.length := l0
  refine ⟨by omega, ?_⟩
  have g := Gr.push s1 { cls := .type "list", data := .seq us.toArray }
  exact h _ _ (.list _ us _ ⟨_, Heap.get?_push_size _ rfl, rfl, 0, rfl⟩ (by show vs.length ≤ sizeLine; omega) (x.gr g)) (P1.trans (.of_gr P1.inv g))

theorem evO_ok (ih : EOk F T Φ k n) (hr : Room A k) (ar : Ard A (env :: envs) (L :: fs)) (En : EnvOk env ns L) (I : Inv F L fs ρ φ s.heap) {x : Option Expr} {m : Option MV}
    (he : evO (evE T Φ ns ρ n) φ x = some (m, φ')) (h : ∀ u s', VRO F s'.heap u m → PV F L fs ρ φ' s s' → Q u s') : wpAny (model prg F.w) A (evalPart x env) Q E s := by
  cases x with
  | none => cases he; exact wpAny_pure (h _ _ rfl (.of_gr I (Gr.refl s)))
  | some e =>
    obtain ⟨⟨w, φ1⟩, e1, he⟩ := Option.map_eq_some_iff.mp he
    cases he
    exact ih e1 hr ar En I fun u s1 x P1 => h u s1 x P1
theorem VRO.kp {s s' : Shared} {u : Value} {m : Option MV} (I : Inv F L fs ρ φ s.heap) (P : PV F L fs ρ φ' s s') (x : VRO F s.heap u m) : VRO F s'.heap u m := by
  cases m with
  | none => exact x
  | some m => exact VR.kp P.kp I.c.dicts x

theorem case_slice (ih : EOk F T Φ k n) (hr : Room A k) (ar : Ard A (env :: envs) (L :: fs)) (En : EnvOk env ns L) (I : Inv F L fs ρ φ s.heap) {x : Expr} {lo hi : Option Expr} {p pos : Pos}
    (he : ((evE T Φ ns ρ n φ x).bind fun (o, φ1) => bif !isNameE x && !isStrV o then Option.none else (evO (evE T Φ ns ρ n) φ1 lo).bind fun (a, φ2) =>
        (evO (evE T Φ ns ρ n) φ2 hi).bind fun (b, φ3) => (sliceMV o a b).map (·, φ3)) = some (v, φ')) (h : ∀ u s', VR F s'.heap u v → PV F L fs ρ φ' s s' → Q u s') :
    wpAny (model prg F.w) A (eval (.Subscript x (.Slice lo hi Option.none p) pos) env) Q E s := by
  obtain ⟨⟨o, φ1⟩, e1, he⟩ := Option.bind_eq_some_iff.mp he
  dsimp only at he
  obtain ⟨q, he⟩ := cond_some' he
  obtain ⟨⟨a, φ2⟩, e2, he⟩ := Option.bind_eq_some_iff.mp he
  obtain ⟨⟨b, φ3⟩, e3, he⟩ := Option.bind_eq_some_iff.mp he
  obtain ⟨c, e4, he⟩ := Option.map_eq_some_iff.mp he
  cases he
  have hn : isNameE x = true ∨ isStrV o = true := by
    cases z : isNameE x with
    | true => exact .inl rfl
    | false => rw [z] at q; exact .inr (by simpa using q)
  refine Subscript_ (ih e1 hr ar En I fun u s1 xx P1 => wpAny_Slice (evO_ok ih hr ar En P1.inv e2 fun ua s2 ya P2 => evO_ok ih hr ar En P2.inv e3 fun ub s3 yb P3 => ?_))
  refine wpAny_pure ?_
  exact slice_ok (s := s3) hn e4 (P3.vr P2.inv (P2.vr P1.inv xx)) (VRO.kp P2.inv P3 ya) yb fun r s4 z g => h r s4 z (((P1.trans P2).trans P3).trans (.of_gr P3.inv g))

theorem case_idx (ih : EOk F T Φ k n) (hr : Room A k) (ar : Ard A (env :: envs) (L :: fs)) (En : EnvOk env ns L) (I : Inv F L fs ρ φ s.heap) {x i : Expr} {pos : Pos} (hi : isSliceE i = false)
    (he : ((evE T Φ ns ρ n φ x).bind fun (o, φ1) => bif !isNameE x && !isStrV o then Option.none else (evE T Φ ns ρ n φ1 i).bind fun (j, φ2) => (idxMV o j).map (·, φ2)) = some (v, φ')) (h : ∀ u s', VR F s'.heap u v → PV F L fs ρ φ' s s' → Q u s') :
    wpAny (model prg F.w) A (eval (.Subscript x i pos) env) Q E s := by
  obtain ⟨⟨o, φ1⟩, e1, he⟩ := Option.bind_eq_some_iff.mp he
  dsimp only at he
  obtain ⟨q, he⟩ := cond_some' he
  obtain ⟨⟨j, φ2⟩, e2, he⟩ := Option.bind_eq_some_iff.mp he
  obtain ⟨c, e3, he⟩ := Option.map_eq_some_iff.mp he
  cases he
  have hn : isNameE x = true ∨ isStrV o = true := by
    cases z : isNameE x with
    | true => exact .inl rfl
    | false => rw [z] at q; exact .inr (by simpa using q)
  refine Subscript_ (ih e1 hr ar En I fun u s1 xx P1 => ih e2 hr ar En P1.inv fun w s2 y P2 => ?_)
  exact idx_ok hi hn e3 (P2.vr P1.inv xx) y fun r s3 z g => h r s3 z ((P1.trans P2).trans (.of_gr P2.inv g))

/-- a text's signs as a list, by a comprehension -/
noncomputable def CompOk (F : Fx) : Prop :=
  ∀ {x g : PySem.Str} {p1 p2 p3 pos : Pos} {sc : Scope} {st : PySem.Str} {t : Tok} {A : Around} {env : Env} {ns : List (PySem.Str × NameKind)} {L : Addr} {envs : List Env} {fs : List Addr} {ρ φ : Fld} {E Q : Value → Shared → Prop} {s : Shared},
    compFine x sc = true → isGlob ns g = true → F.mg g = some (.str st t) → st.length ≤ sizeLine → Room A 0 → Ard A (env :: envs) (L :: fs) → EnvOk env ns L → Inv F L fs ρ φ s.heap →
    (∀ u s', VR F s'.heap u (.list (chars st)) → Gr s s' → Q u s') →
    wpAny (model prg F.w) A (eval (.ListComp (.Name x p1) [⟨.Name x p2, .Name g p3, [], 0⟩] sc pos) env) Q E s

theorem case_comp (K : Facts F T) (CO : CompOk F) (hr : Room A k) (ar : Ard A (env :: envs) (L :: fs)) (En : EnvOk env ns L) (I : Inv F L fs ρ φ s.heap) {x y g : PySem.Str} {p1 p2 p3 pos : Pos} {sc : Scope}
    (he : (bif x == y && isGlob ns g && compFine x sc then (T.glob g).bind fun v => match v with
        | .str s => some (.list (chars s), φ)
        | _ => Option.none
      else Option.none) = some (v, φ')) (h : ∀ u s', VR F s'.heap u v → PV F L fs ρ φ' s s' → Q u s') :
    wpAny (model prg F.w) A (eval (.ListComp (.Name x p1) [⟨.Name y p2, .Name g p3, [], 0⟩] sc pos) env) Q E s := by
  obtain ⟨q, he1⟩ := cond_some he
  clear he
  simp only [Bool.and_eq_true, beq_iff_eq] at q
  obtain ⟨⟨rfl, q1⟩, q2⟩ := q
  obtain ⟨w, e1, he2⟩ := Option.bind_eq_some_iff.mp he1
  obtain ⟨u, e2, r⟩ := K.glob g w e1
  have ri := r.inv
  clear r
  cases w with
  | str st =>
    obtain ⟨t, rfl, z⟩ := ri
    cases he2
    exact CO q2 q1 e2 z (room_zero hr) ar En I fun u s1 y gr => h u s1 y (.of_gr I gr)
  | _ => exact no_some he2

theorem sound (K : Facts F T) (C : CallOk F Φ k) (CO : CompOk F) : ∀ n, EOk F T Φ k n ∧ TOk F T Φ k n
  | 0 => ⟨fun h => no_some h, fun _ h => no_some h⟩
  | n + 1 => by
    obtain ⟨ih, it⟩ := sound K C CO n
    have main : EOk F T Φ k (n + 1) := by
      intro ns ρ φ e v φ' he A env L envs fs E Q s hr ar En I h
      refine Classical.byContradiction fun no => ?_
      have iv := viewE_inv e
      replace he : evV T Φ ns ρ (evE T Φ ns ρ n) φ (viewE e) = some (v, φ') := he
      generalize viewE e = vw at iv he
      cases vw with
      | const c => obtain ⟨k, p, rfl⟩ := iv; exact no (case_const I he h)
      | name x => obtain ⟨p, rfl⟩ := iv; exact no (case_name K En I he h)
      | attr c a => obtain ⟨p, q, rfl⟩ := iv; exact no (case_attr K En I he h)
      | cmp l op r => obtain ⟨p, rfl⟩ := iv; obtain ⟨q, z⟩ := cmpParts (E := E) ih hr ar En I he h; exact no (wpAny_Compare1 z q)
      | bool op x y => obtain ⟨p, rfl⟩ := iv; exact no (case_bool ih hr ar En I he h)
      | not x => obtain ⟨p, rfl⟩ := iv; exact no (case_not ih hr ar En I he h)
      | neg x => obtain ⟨p, rfl⟩ := iv; exact no (case_neg ih hr ar En I he h)
      | bin l op r => obtain ⟨p, rfl⟩ := iv; exact no (case_bin K ih hr ar En I he h)
      | ife t b o => obtain ⟨p, rfl⟩ := iv; exact no (case_ifexp ih it hr ar En I he h)
      | slice w lo hi => obtain ⟨p, q, rfl⟩ := iv; exact no (case_slice ih hr ar En I he h)
      | sub w i => obtain ⟨p, rfl, hi⟩ := iv; exact no (case_idx ih hr ar En I hi he h)
      | comp x y g sc => obtain ⟨p, q, r, t, rfl⟩ := iv; exact no (case_comp K CO hr ar En I he h)
      | list es => obtain ⟨p, rfl⟩ := iv; exact no (case_list ih hr ar En I he h)
      | callN f as => obtain ⟨p, q, rfl⟩ := iv; exact no (case_callName K C ih hr ar En I he h)
      | callM o m ap as p => obtain rfl := iv; exact no (case_callMeth K C ih hr ar En I he h)
      | oth => exact no_some he
    refine ⟨main, ?_⟩
    intro ns ρ φ e v b φ' hs he ht A env L envs fs E Q s hr ar En I h
    refine Classical.byContradiction fun no => ?_
    have iv := viewE_inv e
    have he0 := he
    have fin : wpAny (model prg F.w) A (eval e env) (fun c s' => wpAny (model prg F.w) A (truthy c) Q E s') E s := main he0 hr ar En I fun u s1 x P1 => truth_ok ht x fun s2 g => h s2 (P1.trans (.of_gr P1.inv g))
    replace he : evV T Φ ns ρ (evE T Φ ns ρ n) φ (viewE e) = some (v, φ') := he
    unfold simpleT at hs
    generalize viewE e = vw at iv hs he
    cases vw with
    | cmp l op r =>
      obtain ⟨p, rfl⟩ := iv
      obtain ⟨q, z⟩ := cmpParts (Q := fun c s' => wpAny (model prg F.w) A (truthy c) Q E s') (E := E) ih hr ar En I he fun u s1 x P1 => truth_ok ht x fun s2 g => h s2 (P1.trans (.of_gr P1.inv g))
      exact no (wpAny_isTrue_Compare1 z q)
    | name x => obtain ⟨p, rfl⟩ := iv; exact no (wpAny_isTrue_value fin)
    | callN f as => obtain ⟨p, q, rfl⟩ := iv; exact no (wpAny_isTrue_value fin)
    | callM o m ap as p => obtain rfl := iv; exact no (wpAny_isTrue_value fin)
    | const c =>
      obtain ⟨k, p, rfl⟩ := iv
      cases c with
      | bool b' => cases b' with
        | true => exact no (wpAny_isTrue_value fin rfl)
        | false => cases hs
      | _ => cases hs
    | _ => cases hs
end
end Nor
end

section
open PySem PySem.W PyProof.Rows PySem.Calls
set_option Elab.async false
set_option maxRecDepth 100000
namespace Nor

/-- an exception of the text's own class C, made in this very statement (h₀: the heap at its start), not yet noted (none) or noted in flight at fl -/
structure Exc (h₀ : Heap) (e C : Addr) (fl : Option Value) (h : Heap) : Prop where
  new : h₀.get? e = Option.none
  there : ∃ oe vs, h.get? e = some oe ∧ oe.cls = .ref C ∧ oe.data = .fields vs ∧ 1 < vs.size ∧ match fl with
    | Option.none => vs[1]? = some .none
    | some fl => ∃ T oT ts, vs[1]? = some (.ref T) ∧ h₀.get? T = Option.none ∧ T ≠ e ∧ h.get? T = some oT ∧ oT.data = .fields ts ∧ oT.cls = .type "traceback" ∧ ts[3]? = some fl

theorem Kp.none {D fs : List Addr} {h h' : Heap} (k : Kp D fs h h') {e : Addr} (n : h'.get? e = Option.none) (hD : e ∉ D) : h.get? e = Option.none := by
  cases q : h.get? e with
  | none => rfl
  | some o =>
    by_cases m : e ∈ fs
    · obtain ⟨sl, z⟩ := (k e o q hD).2 m; rw [n] at z; cases z
    · have z := (k e o q hD).1 m; rw [n] at z; cases z
/-- nothing that stood turned -/
theorem Kp.upd {D fs : List Addr} {h₀ h h' : Heap} (k : Kp D fs h₀ h) {a : Addr} (n : h₀.get? a = Option.none) (u : ∀ b, b ≠ a → h'.get? b = h.get? b) : Kp D fs h₀ h' := fun b o e nb => by
  have ne : b ≠ a := fun q => by rw [q, n] at e; cases e
  rw [u b ne]
  exact k b o e nb

section
variable {F : Fx} {A : Around} {E : Value → Shared → Prop} {s : Shared} {Q : Unit → Shared → Prop} {ns : List (PySem.Str × NameKind)} {ρ φ : Fld} {env : Env} {L : Addr} {envs : List Env} {fs : List Addr} {e C : Addr}

theorem funFrames : ∀ {envs : List Env} {fs : List Addr} {h : Heap}, envs.map (·.frame) = fs.map some → (∀ e ∈ envs, e.scope.kind = .function) → Dicts h fs → (∀ b ∈ fs, F.H.get? b = Option.none) → h.FunFrames F.H envs
  | [], _, _, _, _, _, _ => trivial
  | env :: r, [], _, hf, _, _, _ => by cases hf
  | env :: r, b :: fs, h, hf, hk, d, n => by
    rw [List.map_cons, List.map_cons, List.cons.injEq] at hf
    obtain ⟨m, o, es, ep, e, dd, _⟩ := d b (.head _)
    refine ⟨by rw [hk env (.head _)]; decide, ⟨b, o, hf.1, n b (.head _), e, fun vs q => by rw [dd] at q; cases q⟩, funFrames hf.2 (fun e m => hk e (.tail _ m)) (fun b m => d b (.tail _ m)) fun b m => n b (.tail _ m)⟩

theorem frames_eq : ∀ {envs : List Env} {fs : List Addr}, envs.map (·.frame) = fs.map some → envs.filterMap (·.frame) = fs
  | [], [], _ => rfl
  | env :: r, b :: fs, h => by
    rw [List.map_cons, List.map_cons, List.cons.injEq] at h
    rw [List.filterMap_cons, h.1, frames_eq h.2]
  | [], _ :: _, h => by cases h
  | _ :: _, [], h => by cases h

theorem setFlight_ok {h₀ : Heap} {fl : Value} {fr : Option Addr} (x : Exc h₀ e C (some fl) s.heap)
    (h : ∀ h' T oT ts, h₀.get? T = Option.none → s.heap.get? T = some oT → oT.data = .fields ts → oT.cls = .type "traceback" → (∀ b, b ≠ T → h'.get? b = s.heap.get? b) → Exc h₀ e C (some (fr.elim .none fun f => rawInt f)) h' → Q () { s with heap := h' }) : wpAny (model prg F.w) A (setFlight (.ref e) fr) Q E s := by
  obtain ⟨n, oe, vs, he, hc, hd, hz, T, oT, ts, h1, nT, hT, ho, hdT, hcT, h3⟩ := x
  unfold setFlight
  refine wpAny_bind (wpAny_field he hd h1 ?_)
  rw [if_pos (show (Value.ref T != Value.none) = true from by simp)]
  have z3 : 3 < ts.size := (Array.getElem?_eq_some_iff.mp h3).1
  refine wpAny_setField ho hdT z3 (h _ T _ _ nT ho hdT hcT (fun b hb => Heap.get?_update_other _ _ (Ne.symm hb)) ?_)
  have hT' := Heap.get?_update_self (Obj.mapFields (·.setIfInBounds 3 (fr.elim Value.none fun f => rawInt f))) ho (Obj.isFreed_of_fields (Obj.data_mapFields hdT _))
  refine ⟨n, oe, vs, (Heap.get?_update_other _ _ hT).trans he, hc, hd, hz, T, _, _, h1, nT, hT, hT', Obj.data_mapFields hdT _, (Obj.cls_mapFields _ _).trans hcT, ?_⟩
  simp [z3]

/-- the stemmer's view, where one object of another kind turned -/
theorem InvC.turn {h h' : Heap} {oe : Obj} {vs : Array Value} (I : InvC F fs φ h) (k : Kp [e] fs h h') (he : h.get? e = some oe) (hd : oe.data = .fields vs) (hc : oe.cls ≠ .type "range") (hH : F.H.get? e = Option.none) :
    InvC F fs φ h' ∧ ∀ ρ L, Loc F L ρ h → L ∈ fs → Loc F L ρ h' := by
  have mt : Mutb h ([e] ++ fs) := fun b m o z => by
    rcases List.mem_append.mp m with m | m
    · obtain rfl := List.mem_singleton.mp m
      rw [he] at z; cases z
      exact ⟨(fun xs n q => by rw [hd] at q; cases q), (fun ⟨q, _⟩ => hc q)⟩
    · exact I.fr.mut b m o z
  have notE : ∀ {b m}, h.Ns b m → b ∉ [e] := fun {b m} n q => by
    obtain ⟨o, es, ep, z, dd, _⟩ := n
    rw [List.mem_singleton.mp q, he] at z; cases z; rw [hd] at dd; cases dd
  refine ⟨⟨fun b o z => ?_, ?_, ?_, fun b m => ?_, I.nd, I.old⟩, fun ρ L l m => ?_⟩
  · have ne : b ∉ [e] := fun q => by rw [List.mem_singleton.mp q, hH] at z; cases z
    have nf : b ∉ fs := fun q => by rw [I.old b (.tail _ q)] at z; cases z
    exact (k b o (I.base b o z) ne).1 nf
  · have ne : F.x ∉ [e] := fun q => by
      have := I.inst
      rw [List.mem_singleton.mp q, he] at this; cases this; cases hd
    have nf : F.x ∉ fs := I.fr.not I.inst (fun es k q => by cases q)
    exact (k _ _ I.inst ne).1 nf
  · obtain ⟨m, n, f0, f⟩ := I.dict
    exact ⟨m, k.ns1 n (notE n.ns), f0, fun a => ⟨fun v z => let ⟨u, p, q⟩ := (f a).1 v z; ⟨u, p, q.kpm k mt⟩, (f a).2⟩⟩
  · obtain ⟨m', n⟩ := I.fr b m
    exact ⟨m', k.ns n (notE n)⟩
  · obtain ⟨m', n, f⟩ := l
    exact ⟨m', k.ns n (notE n), fun y v z => let ⟨u, p, q⟩ := f y v z; ⟨u, p, q.kpm k mt⟩⟩

theorem note_ok {h₀ : Heap} {fl : Option Value} (ar : Ard A (env :: envs) (L :: fs)) (hf : env.frame = some L) (I : InvC F (L :: fs) φ s.heap) (x : Exc h₀ e C fl s.heap) (hfl : fl = Option.none ∨ fl = some (rawInt L)) (hb : ∀ b o, h₀.get? b = some o → ∃ o', s.heap.get? b = some o') (hB : F.H.StaysIn h₀)
    (h : ∀ h', InvC F (L :: fs) φ h' → (∀ {D fs'}, (∀ b, b ∈ L :: fs → b ∈ fs' ∨ b ∈ D) → Kp D fs' h₀ s.heap → Kp D fs' h₀ h') → Exc h₀ e C (some (rawInt L)) h' → (∀ ρ, Loc F L ρ s.heap → Loc F L ρ h') → Q () { s with heap := h' }) : wpAny (model prg F.w) A (noteFrame (.ref e) env) Q E s := by
  have ff : s.heap.FunFrames F.H (env :: envs) := funFrames ar.fr ar.kind I.fr fun b m => I.old b (.tail _ m)
  have fe : (env :: envs).filterMap (·.frame) = L :: fs := frames_eq ar.fr
  obtain ⟨n, oe, vs, he, hc, hd, hz, hv⟩ := x
  unfold noteFrame
  simp only [hf]
  rcases hfl with rfl | rfl
  · have h1 : vs[1]? = some .none := hv
    refine wpAny_bind (wpAny_field he hd h1 ?_)
    rw [if_neg (by decide)]
    refine wpAny_bind (wpAny_frameOf_fun ar.fra ff hf fun h₁ hs₁ => ?_)
    rw [fe] at hs₁
    refine wpAny_bind (wpAny_entryPlaceOf fun pl hpl => ?_)
    unfold EntryCells.newEntry newFields
    refine wpAny_bind (wpAny_newObj_type ?_ (hpl.sizeOk5 _ _ _ _ _))
    have hene : e ∉ L :: fs := fun hm => by
      obtain ⟨m, o, es, ep, z, dd, _⟩ := I.fr e hm
      rw [he] at z; cases z; rw [hd] at dd; cases dd
    have he₁ : h₁.get? e = some oe := (hs₁.2.1 e hene).trans he
    have nT : s.heap.get? h₁.objs.size = Option.none := by
      rw [hs₁.1]
      cases q : s.heap.get? s.heap.objs.size with
      | none => rfl
      | some o => exact absurd (Heap.lt_size q) (Nat.lt_irrefl _)
    have nT0 : h₀.get? h₁.objs.size = Option.none := by
      cases q : h₀.get? h₁.objs.size with
      | none => rfl
      | some o => obtain ⟨o', z⟩ := hb _ _ q; rw [nT] at z; cases z
    have he₂ := Heap.get?_push_of_some (h := h₁) { cls := .type "traceback", dict := Option.none, data := .fields ([Value.none, .ref L, .none, rawInt L, .none] ++ (if pl.isEmpty then List.replicate 6 Value.none else pl)).toArray } he₁
    refine wpAny_setField he₂ hd hz ?_
    have hTe : h₁.objs.size ≠ e := Nat.ne_of_gt (Heap.lt_size he₁)
    have hd₃ := Obj.data_mapFields hd (·.setIfInBounds 1 (Value.ref h₁.objs.size))
    have he₃ := Heap.get?_update_self (Obj.mapFields (·.setIfInBounds 1 (Value.ref h₁.objs.size))) he₂ (Obj.isFreed_of_fields hd₃)
    have hT₃ := (Heap.get?_update_other (h₁.push { cls := .type "traceback", dict := Option.none, data := .fields ([Value.none, .ref L, .none, rawInt L, .none] ++ (if pl.isEmpty then List.replicate 6 Value.none else pl)).toArray })
      (Obj.mapFields (·.setIfInBounds 1 (Value.ref h₁.objs.size))) (Ne.symm hTe)).trans (Heap.get?_push_size h₁ rfl)
    have keep : ∀ b o, b ≠ e → s.heap.get? b = some o → (b ∉ L :: fs → ((h₁.push { cls := .type "traceback", dict := Option.none, data := .fields ([Value.none, .ref L, .none, rawInt L, .none] ++ (if pl.isEmpty then List.replicate 6 Value.none else pl)).toArray }).update e (Obj.mapFields (·.setIfInBounds 1 (Value.ref h₁.objs.size)))).get? b = some o) ∧
        ∃ sl, ((h₁.push { cls := .type "traceback", dict := Option.none, data := .fields ([Value.none, .ref L, .none, rawInt L, .none] ++ (if pl.isEmpty then List.replicate 6 Value.none else pl)).toArray }).update e (Obj.mapFields (·.setIfInBounds 1 (Value.ref h₁.objs.size)))).get? b = some { o with slots := sl } := fun b o hbe hb' => by
      constructor
      · intro m
        rw [Heap.get?_update_other _ _ (Ne.symm hbe)]
        exact Heap.get?_push_of_some _ ((hs₁.2.1 b m).trans hb')
      · obtain ⟨sl, z⟩ := hs₁.2.2 b o hb'
        refine ⟨sl, ?_⟩
        rw [Heap.get?_update_other _ _ (Ne.symm hbe)]
        exact Heap.get?_push_of_some _ z
    have kp : Kp [e] (L :: fs) s.heap _ := fun b o z nb => by
      have ne : b ≠ e := fun q => nb (List.mem_singleton.mpr q)
      obtain ⟨k1, k2⟩ := keep b o ne z
      exact ⟨k1, fun _ => k2⟩
    have hoe : F.H.get? e = Option.none := by
      cases q : F.H.get? e with
      | none => rfl
      | some o => have z := hB _ _ q; rw [n] at z; cases z
    obtain ⟨I', l'⟩ := I.turn kp he hd (by rw [hc]; exact fun q => by cases q) hoe
    refine h _ I' (fun {D fs'} hw k b o z nb => ?_) ?_ (fun ρ l => l' ρ L l (.head _))
    · obtain ⟨k1, k2⟩ := k b o z nb
      have ne : b ≠ e := fun q => by rw [q, n] at z; cases z
      constructor
      · intro m
        have m' : b ∉ L :: fs := fun q => (hw b q).elim m nb
        exact (keep b o ne (k1 m)).1 m'
      · intro m
        obtain ⟨sl, z'⟩ := k2 m
        obtain ⟨sl', z''⟩ := (keep b _ ne z').2
        exact ⟨sl', z''⟩
    · refine ⟨n, _, _, he₃, (Obj.cls_mapFields _ _).trans hc, hd₃, by simpa using hz, h₁.objs.size, _, _, by simp [hz], nT0, hTe, hT₃, rfl, rfl, ?_⟩
      first | (simp; done) | (rcases hpl with rfl | ⟨_, _, _, _, _, _, _, rfl⟩ <;> simp)
  · obtain ⟨T, oT, ts, h1, nT, hT, ho, hdT, hcT, h3⟩ := hv
    refine wpAny_bind (wpAny_field he hd h1 ?_)
    rw [if_pos (show (Value.ref T != Value.none) = true from by simp)]
    refine wpAny_bind (wpAny_field ho hdT h3 ?_)
    rw [if_pos (by simp)]
    exact wpAny_pure (h _ I (fun _ k => k) ⟨n, oe, vs, he, hc, hd, hz, T, oT, ts, h1, nT, hT, ho, hdT, hcT, h3⟩ (fun _ l => l))
end
end Nor
end

section
open PySem PySem.W PyProof.Rows PySem.Calls
set_option Elab.async false
set_option maxRecDepth 100000
namespace Nor

/-- behind a statement -/
structure PS (F : Fx) (L : Addr) (fs : List Addr) (σ : St) (s s' : Shared) : Prop where
  inv : Inv F L fs σ.ρ σ.φ s'.heap
  kp : Kp [L, F.dx] fs s.heap s'.heap
  sm : Sm s s'
theorem Kp.frame {F : Fx} {L : Addr} {fs : List Addr} {h h' : Heap} (k : Kp [F.dx] (L :: fs) h h') : Kp [L, F.dx] fs h h' :=
  k.weaken (fun b m => by rw [List.mem_singleton.mp m]; simp) (fun b m => by rcases List.mem_cons.mp m with rfl | m; exact .inr (.head _); exact .inl m) (fun b m => .inl (.tail _ m))
theorem PV.ps {F : Fx} {L : Addr} {fs : List Addr} {ρ φ : Fld} {s s' : Shared} (x : PV F L fs ρ φ s s') : PS F L fs ⟨ρ, φ⟩ s s' := ⟨x.inv, x.kp.frame, x.sm⟩
theorem PS.trans {F : Fx} {L : Addr} {fs : List Addr} {σ σ' : St} {a b c : Shared} (x : PS F L fs σ a b) (y : PS F L fs σ' b c) : PS F L fs σ' a c := ⟨y.inv, x.kp.trans y.kp, x.sm.trans y.sm⟩
theorem PS.refl {F : Fx} {L : Addr} {fs : List Addr} {σ : St} {s : Shared} (I : Inv F L fs σ.ρ σ.φ s.heap) : PS F L fs σ s s := ⟨I, Kp.refl _ _ _, Sm.refl s⟩
theorem Inv.at_D {F : Fx} {L : Addr} {fs : List Addr} {ρ φ : Fld} {h : Heap} (I : Inv F L fs ρ φ h) {b : Addr} (m : b ∈ [L, F.dx]) : ∃ m, h.Ns b m := by
  rcases List.mem_cons.mp m with rfl | m
  · obtain ⟨m, n, _⟩ := I.l; exact ⟨m, n⟩
  · rw [List.mem_singleton.mp m]; obtain ⟨m, n, _⟩ := I.c.dict; exact ⟨m, n.ns⟩
theorem PS.none {F : Fx} {L : Addr} {fs : List Addr} {σ : St} {s s' : Shared} (x : PS F L fs σ s s') {e : Addr} (n : s'.heap.get? e = Option.none) : s.heap.get? e = Option.none := by
  refine x.kp.none n fun m => ?_
  obtain ⟨m, q⟩ := x.inv.at_D m
  obtain ⟨o, z⟩ := dict_at q
  rw [n] at z; cases z
theorem PS.there {F : Fx} {L : Addr} {fs : List Addr} {σ : St} {s s' : Shared} (x : PS F L fs σ s s') {b : Addr} {o : Obj} (e : s.heap.get? b = some o) : ∃ o', s'.heap.get? b = some o' := by
  cases q : s'.heap.get? b with
  | some o' => exact ⟨o', rfl⟩
  | none => rw [x.none q] at e; cases e
theorem Inv.dicts {F : Fx} {L : Addr} {fs : List Addr} {ρ φ : Fld} {h : Heap} (I : Inv F L fs ρ φ h) : Dicts h ([L, F.dx] ++ fs) := fun b m => by
  rcases List.mem_append.mp m with m | m
  · exact I.at_D m
  · exact I.c.fr b (.tail _ m)
theorem PS.vr {F : Fx} {L : Addr} {fs : List Addr} {σ : St} {ρ φ : Fld} {s s' : Shared} (I : Inv F L fs ρ φ s.heap) (x : PS F L fs σ s s') {u : Value} {v : MV} (y : VR F s.heap u v) : VR F s'.heap u v := y.kp x.kp I.dicts

theorem get_put (φ : Fld) (a b : PySem.Str) (v : MV) : get b (put a v φ) = if b = a then some v else get b φ := by
  induction φ with
  | nil =>
    simp only [put, get]
    by_cases q : b = a
    · subst q; simp
    · have : (a == b) = false := by rw [beq_eq_false_iff_ne]; exact fun z => q z.symm
      simp [this, q]
  | cons p r ih =>
    obtain ⟨y, w⟩ := p
    by_cases q1 : y = a
    · subst q1
      simp only [put, beq_self_eq_true, cond_true, get]
      by_cases q : b = y
      · subst q; simp
      · have : (y == b) = false := by rw [beq_eq_false_iff_ne]; exact fun z => q z.symm
        simp [this, q]
    · have z1 : (y == a) = false := by rw [beq_eq_false_iff_ne]; exact q1
      simp only [put, z1, cond_false, get, ih]
      by_cases q : b = a
      · subst q; simp [z1]
      · simp [q]

structure LabOk (F : Fx) (lab : PySem.Str → Addr) : Prop where
  own : ∀ c ∈ labN, OwnCls c (lab c) [.type "Exception", .type "BaseException", .type "object"] "Exception.__new__" F.mg F.H
  exm : ∀ c ∈ labN, ∀ c' ∈ labN, exmOne F.K (.ref (lab c')) (.ref (lab c)) = some (c' == c)

/-- behind a raise -/
noncomputable def ExP (F : Fx) (lab : PySem.Str → Addr) (L : Addr) (fs : List Addr) (c : PySem.Str) (σ : St) (s : Shared) (x : Value) (s' : Shared) : Prop :=
  c ∈ labN ∧ ∃ e fl, x = .ref e ∧ PS F L fs σ s s' ∧ Exc s.heap e (lab c) fl s'.heap ∧ (fl = Option.none ∨ fl = some (rawInt L))
theorem Exc.back {h h₀ : Heap} {e C : Addr} {fl : Option Value} {h' : Heap} (x : Exc h₀ e C fl h') (k : ∀ b, h₀.get? b = Option.none → h.get? b = Option.none) : Exc h e C fl h' := by
  obtain ⟨n, oe, vs, he, hc, hd, hz, hv⟩ := x
  refine ⟨k _ n, oe, vs, he, hc, hd, hz, ?_⟩
  cases fl with
  | none => exact hv
  | some fl => obtain ⟨T, oT, ts, h1, nT, r⟩ := hv; exact ⟨T, oT, ts, h1, k _ nT, r⟩
theorem ExP.back {F : Fx} {lab : PySem.Str → Addr} {L : Addr} {fs : List Addr} {c : PySem.Str} {σ σ' : St} {a b s' : Shared} {x : Value} (P : PS F L fs σ a b) (y : ExP F lab L fs c σ' b x s') : ExP F lab L fs c σ' a x s' := by
  obtain ⟨m, e, fl, rfl, P', x, hfl⟩ := y
  exact ⟨m, e, fl, rfl, P.trans P', x.back fun b n => P.none n, hfl⟩

section
variable {F : Fx} {lab : PySem.Str → Addr} {T : Tab} {Φ : CallT} {k n : Nat} {A : Around} {E : Value → Shared → Prop} {s s₀ : Shared} {ns : List (PySem.Str × NameKind)} {σ : St} {env : Env} {L : Addr} {envs : List Env} {fs : List Addr} {e C : Addr}

/-- an object that is no value turned -/
theorem PS.turn {h' : Heap} {t : Nat} {oe : Obj} {vs : Array Value} (P : PS F L fs σ s₀ s) (hB : F.H.StaysIn s₀.heap) (n : s₀.heap.get? e = Option.none) (u : ∀ b o, b ≠ e → s.heap.get? b = some o → h'.get? b = some o) (he : s.heap.get? e = some oe) (hd : oe.data = .fields vs) (hc : oe.cls ≠ .type "range") : PS F L fs σ s₀ { s with heap := h', toks := t } := by
  have hH : F.H.get? e = Option.none := by
    cases q : F.H.get? e with
    | none => rfl
    | some o => have z := hB _ _ q; rw [n] at z; cases z
  have kp : ∀ D fs, Kp (e :: D) fs s.heap h' := fun D fs b o z nb => by
    have q := u b o (fun q => nb (by rw [q]; exact .head _)) z
    exact ⟨fun _ => q, fun _ => ⟨o.slots, q⟩⟩
  obtain ⟨c', l'⟩ := P.inv.c.turn (kp _ _) he hd hc hH
  refine ⟨⟨c', l' _ L P.inv.l (.head _), P.inv.nL⟩, fun b o z nb => ?_, P.sm⟩
  have ne : b ≠ e := fun q => by rw [q, n] at z; cases z
  obtain ⟨k1, k2⟩ := P.kp b o z nb
  exact ⟨fun m => u b o ne (k1 m), fun m => let ⟨sl, z⟩ := k2 m; ⟨sl, u b _ ne z⟩⟩

theorem fly_ok {Q : Unit → Shared → Prop} {fl : Value} {fr : Option Addr} (P : PS F L fs σ s₀ s) (hB : F.H.StaysIn s₀.heap) (x : Exc s₀.heap e C (some fl) s.heap)
    (h : ∀ s', PS F L fs σ s₀ s' → Exc s₀.heap e C (some (fr.elim .none fun f => rawInt f)) s'.heap → Q () s') : wpAny (model prg F.w) A (setFlight (.ref e) fr) Q E s := by
  refine setFlight_ok x fun h' T oT ts nT hT hd hc u x' => h _ ?_ x'
  exact P.turn (t := s.toks) hB nT (fun b o ne z => (u b ne).trans z) hT hd (by rw [hc]; decide)

theorem noted_ok {Q : Unit → Shared → Prop} {c : PySem.Str} {x : Value} (ar : Ard A (env :: envs) (L :: fs)) (hf : env.frame = some L) (hB : F.H.StaysIn s₀.heap) (y : ExP F lab L fs c σ s₀ x s)
    (h : ∀ e s', c ∈ labN → x = .ref e → PS F L fs σ s₀ s' → Exc s₀.heap e (lab c) (some (rawInt L)) s'.heap → Q () s') : wpAny (model prg F.w) A (noteFrame x env) Q E s := by
  obtain ⟨m, e, fl, rfl, P, x, hfl⟩ := y
  refine note_ok ar hf P.inv.c x hfl (fun b o z => P.there z) hB fun h' I' tr x' l' => h e _ m rfl ⟨⟨I', l' _ P.inv.l, P.inv.nL⟩, tr (fun b q => ?_) P.kp, P.sm⟩ x'
  rcases List.mem_cons.mp q with rfl | q
  · exact .inr (.head _)
  · exact .inl q

theorem exc_field {fl : Value} {h₀ : Heap} {Q : Value → Shared → Prop} (x : Exc h₀ e C (some fl) s.heap) (h : ∀ T, Q (.ref T) s) : wpAny (model prg F.w) A (field (.ref e) 1) Q E s := by
  obtain ⟨n, oe, vs, he, hc, hd, hz, T, oT, ts, h1, r⟩ := x
  exact wpAny_field he hd h1 (h T)

theorem passes {c : PySem.Str} {x : Value} (ar : Ard A (env :: envs) (L :: fs)) (hf : env.frame = some L) (hB : F.H.StaysIn s₀.heap) (y : ExP F lab L fs c σ s₀ x s) (h : ∀ s', ExP F lab L fs c σ s₀ x s' → E x s') :
    notedBy (model prg F.w) A env (cameBackBy (model prg F.w) A env E) x s := by
  refine noted_ok ar hf hB y fun e s' m q P x' => ?_
  subst q
  unfold cameBackBy
  refine wpAny_bind (exc_field x' fun T => ?_)
  rw [if_neg (by simp)]
  refine fly_ok P hB x' fun s'' P' x'' => ?_
  rw [hf] at x''
  exact h s'' ⟨m, e, _, rfl, P', x'', .inr rfl⟩

/-- a local's store -/
theorem store_loc {Q : Unit → Shared → Prop} {x : PySem.Str} {u : Value} {v : MV} (En : EnvOk env ns L) (I : Inv F L fs σ.ρ σ.φ s.heap) (hl : isLoc ns x = true) (r : VR F s.heap u v)
    (h : ∀ s', PS F L fs ⟨put x v σ.ρ, σ.φ⟩ s s' → Q () s') : wpAny (model prg F.w) A (storeName env x u) Q E s := by
  obtain ⟨a, b⟩ := loc_spec hl
  obtain ⟨m, n, f⟩ := I.l
  have n' := n
  rw [← En.loc] at n'
  refine wpAny_storeName_local ((kindOf_eq En x).trans a) n' (fun h' hn sb => ?_) ?_
  · rw [En.loc] at hn sb
    have kp : ∀ D fs, Kp (L :: D) fs s.heap h' := fun D fs b o e nb => by
      have ne : b ≠ L := fun q => nb (by rw [q]; exact .head _)
      have e' := (sb.2 b ne).trans e
      exact ⟨fun _ => e', fun _ => ⟨o.slots, e'⟩⟩
    have dd : Dicts s.heap ([L] ++ (F.dx :: fs)) := fun b m => by
      rcases List.mem_append.mp m with m | m
      · exact I.at_D (by rw [List.mem_singleton.mp m]; exact .head _)
      · rcases List.mem_cons.mp m with rfl | m
        · exact I.at_D (by simp)
        · exact I.c.fr b (.tail _ m)
    have vr : ∀ {u : Value} {v : MV}, VR F s.heap u v → VR F h' u v := fun y => y.kp (kp [] (F.dx :: fs)) dd
    have nd : F.dx ≠ L := fun q => I.c.nd (by rw [q]; exact .head _)
    refine h _ ⟨⟨⟨fun b o e => ?_, ?_, ?_, fun b mb => ?_, I.c.nd, I.c.old⟩, ⟨_, hn, fun y w e => ?_⟩, I.nL⟩, kp _ _, ⟨rfl, rfl⟩⟩
    · have ne : b ≠ L := fun q => by rw [q, I.c.old L (by simp)] at e; cases e
      exact (sb.2 b ne).trans (I.c.base b o e)
    · have ne : F.x ∉ L :: fs := I.c.fr.not I.c.inst (fun es k q => by cases q)
      exact (sb.2 _ (fun q => ne (by rw [q]; exact .head _))).trans I.c.inst
    · obtain ⟨m, n, f0, f⟩ := I.c.dict
      exact ⟨m, (kp [] []).ns1 n (fun q => nd (List.mem_singleton.mp q)), f0, fun a => ⟨fun v e => let ⟨u, p, q⟩ := (f a).1 v e; ⟨u, p, vr q⟩, (f a).2⟩⟩
    · by_cases q : b = L
      · subst q; exact ⟨_, hn⟩
      · obtain ⟨m, n⟩ := I.c.fr b mb
        exact ⟨m, n.sameBut sb q⟩
    · rw [get_put] at e
      by_cases q : y = x
      · rw [if_pos q] at e ⊢; cases e; exact ⟨u, rfl, vr r⟩
      · rw [if_neg q] at e ⊢
        obtain ⟨u', p, z⟩ := f y w e
        exact ⟨u', p, vr z⟩
  · rw [En.kind]; rfl

/-- a field's store, as a statement's end -/
theorem store_fld (K : Facts F T) {Q : Unit → Shared → Prop} {a : PySem.Str} {u : Value} {v : MV} (I : Inv F L fs σ.ρ σ.φ s.heap) (ha : a ∈ fieldNames) (r : VR F s.heap u v)
    (h : ∀ s', PS F L fs ⟨σ.ρ, put a v σ.φ⟩ s s' → Q () s') : wpAny (model prg F.w) A (setAttr (.ref F.x) a u) Q E s :=
  set_fld K I.c ha r fun s' c' kp sm => h s' (PV.ps ⟨⟨c', I.l.kp kp I.c.dicts (fun m => I.c.nd (by rw [← List.mem_singleton.mp m]; exact .head _)), I.nL⟩, kp, sm⟩)

/-- tests -/
noncomputable def BOk (F : Fx) (T : Tab) (Φ : CallT) (k n : Nat) : Prop :=
  ∀ {ns : List (PySem.Str × NameKind)} {ρ φ : Fld} {e : Expr} {b : Bool} {φ' : Fld}, evT T Φ ns ρ n φ e = some (b, φ') →
  ∀ {A : Around} {env : Env} {L : Addr} {envs : List Env} {fs : List Addr} {E : Value → Shared → Prop} {Q : Bool → Shared → Prop} {s : Shared}, Room A k → Ard A (env :: envs) (L :: fs) → EnvOk env ns L → Inv F L fs ρ φ s.heap →
    (∀ s', PV F L fs ρ φ' s s' → Q b s') → wpAny (model prg F.w) A (isTrue e env (eval e env)) Q E s

theorem soundTs {op : PySem.BoolOp} (ih : BOk F T Φ k n) {ρ : Fld} (hr : Room A k) (ar : Ard A (env :: envs) (L :: fs)) (En : EnvOk env ns L) :
    ∀ (es : List Expr) {φ φ' : Fld} {b : Bool} {s : Shared} {Q : Bool → Shared → Prop}, evTs (evT T Φ ns ρ n) op φ es = some (b, φ') → Inv F L fs ρ φ s.heap →
      (∀ s', PV F L fs ρ φ' s s' → Q b s') → wpAny (model prg F.w) A (allTrue op es env) Q E s
  | [], φ, φ', b, s, Q, he, I, h => by
    cases op <;> cases he
    · exact wpAny_allTrue_And_nil (h s (.of_gr I (Gr.refl s)))
    · exact wpAny_allTrue_Or_nil (h s (.of_gr I (Gr.refl s)))
  | e :: es, φ, φ', b, s, Q, he, I, h => by
    obtain ⟨⟨c, φ1⟩, e1, he⟩ := Option.bind_eq_some_iff.mp he
    dsimp only at he
    cases op with
    | And =>
      refine wpAny_allTrue_And_cons (ih e1 hr ar En I fun s1 P1 => ?_)
      cases c with
      | true => rw [if_pos rfl]; exact soundTs ih hr ar En es he P1.inv fun s2 P2 => h s2 (P1.trans P2)
      | false => cases he; rw [if_neg Bool.false_ne_true]; exact h s1 P1
    | Or =>
      refine wpAny_allTrue_Or_cons (ih e1 hr ar En I fun s1 P1 => ?_)
      cases c with
      | false => rw [if_neg Bool.false_ne_true]; exact soundTs ih hr ar En es he P1.inv fun s2 P2 => h s2 (P1.trans P2)
      | true => cases he; rw [if_pos rfl]; exact h s1 P1

theorem soundB (K : Facts F T) (C : CallOk F Φ k) (CO : CompOk F) (n : Nat) : BOk F T Φ k n := by
  induction n with
  | zero => exact fun h => by simp [evT] at h
  | succ n ih =>
    intro ns ρ φ e b φ' he A env L envs fs E Q s hr ar En I h
    unfold evT at he
    dsimp only at he
    split at he
    · exact wpAny_isTrue_BoolOp (soundTs ih hr ar En _ he I h)
    · obtain ⟨⟨c, φ1⟩, e1, he⟩ := Option.map_eq_some_iff.mp he
      cases he
      exact wpAny_isTrue_Not (ih e1 hr ar En I h)
    · obtain ⟨q, he⟩ := cond_some he
      obtain ⟨⟨v, φ1⟩, e1, he⟩ := Option.bind_eq_some_iff.mp he
      obtain ⟨c, e2, he⟩ := Option.map_eq_some_iff.mp he
      cases he
      exact (sound K C CO depth).2 q e1 e2 hr ar En I h
end
end Nor
end

section
open PySem PySem.W PyProof.Rows PySem.Calls
set_option Elab.async false
set_option maxRecDepth 100000
namespace Nor

/-- how a block ended -/
noncomputable def FlR (F : Fx) (h : Heap) : Out → Flow → Prop
  | .next, fl => fl = .next
  | .brk, fl => fl = .brk
  | .ret v, fl => ∃ u, fl = .ret u ∧ VR F h u v
  | .exc _, _ => False

/-- a step's spec -/
noncomputable def Step (F : Fx) (lab : PySem.Str → Addr) (A : Around) (L : Addr) (fs : List Addr) (E : Value → Shared → Prop) (m : Sem Flow) (s : Shared) (o : Out) (σ' : St) (Q : Flow → Shared → Prop) : Prop :=
  (∀ fl s', FlR F s'.heap o fl → PS F L fs σ' s s' → Q fl s') → (∀ c x s', o = .exc c → ExP F lab L fs c σ' s x s' → E x s') → wpAny (model prg F.w) A m Q E s

noncomputable def SOk (F : Fx) (lab : PySem.Str → Addr) (T : Tab) (Φ : CallT) (k n : Nat) : Prop :=
  ∀ {ns : List (PySem.Str × NameKind)} {σ : St} {b : List Stmt} {o : Out} {σ' : St}, exS T Φ ns n σ b = some (o, σ') →
  ∀ {A : Around} {env : Env} {L : Addr} {envs : List Env} {fs : List Addr} {E : Value → Shared → Prop} {Q : Flow → Shared → Prop} {s : Shared}, Room A k → Ard A (env :: envs) (L :: fs) → EnvOk env ns L → Inv F L fs σ.ρ σ.φ s.heap →
    (∀ fl s', FlR F s'.heap o fl → PS F L fs σ' s s' → Q fl s') → (∀ c x s', o = .exc c → ExP F lab L fs c σ' s x s' → E x s') → wpAny (model prg F.w) A (execs b env) Q E s

section
variable {F : Fx} {lab : PySem.Str → Addr} {T : Tab} {Φ : CallT} {k n : Nat} {A : Around} {E : Value → Shared → Prop} {s s₀ : Shared} {ns : List (PySem.Str × NameKind)} {σ σ' : St} {env : Env} {L : Addr} {envs : List Env} {fs : List Addr} {e C : Addr}
  {Q : Flow → Shared → Prop} {o : Out}

theorem while_ok (K : Facts F T) (Ck : CallOk F Φ k) (CO : CompOk F) (ih : SOk F lab T Φ k n) (hr : Room A k) (ar : Ard A (env :: envs) (L :: fs)) (En : EnvOk env ns L) (I : Inv F L fs σ.ρ σ.φ s.heap) {t : Expr} {b : List Stmt} {pos : Pos} {N : Nat}
    (he : whileN (fun σ => (evT T Φ ns σ.ρ depth σ.φ t).map fun (c, φ) => (c, ⟨σ.ρ, φ⟩)) (fun σ => exS T Φ ns n σ b) N σ = some (o, σ'))
    (h : ∀ fl s', FlR F s'.heap o fl → PS F L fs σ' s s' → Q fl s') (hx : ∀ c x s', o = .exc c → ExP F lab L fs c σ' s x s' → E x s') : wpAny (model prg F.w) A (exec (.While t b [] pos) env) Q E s := by
  have hB := I.base
  refine wpAny_While (codeAny_whileLoop (fun N s1 => ∃ σ1, whileN (fun σ => (evT T Φ ns σ.ρ depth σ.φ t).map fun (c, φ) => (c, ⟨σ.ρ, φ⟩)) (fun σ => exS T Φ ns n σ b) N σ1 = some (o, σ') ∧ PS F L fs σ1 s s1) ?_ N ⟨σ, he, .refl I⟩)
  intro N s1 ⟨σ1, he, P1⟩
  cases N with
  | zero => cases he
  | succ N =>
    obtain ⟨⟨c, σ2⟩, e1, he⟩ := Option.bind_eq_some_iff.mp he
    obtain ⟨⟨c', φ2⟩, e1', q⟩ := Option.map_eq_some_iff.mp e1
    clear e1
    cases q
    refine soundB K Ck CO depth e1' hr ar En P1.inv fun s2 P2 => ?_
    have P2 := P1.trans P2.ps
    cases c with
    | false =>
      cases he
      rw [if_neg Bool.false_ne_true]
      exact wpAny_execs_nil (h _ _ rfl P2)
    | true =>
      rw [if_pos rfl]
      obtain ⟨⟨o', σ3⟩, e2, he⟩ := Option.bind_eq_some_iff.mp he
      refine ih e2 hr ar En P2.inv (fun fl s3 r P3 => ?_) fun c x s3 q X => ?_
      · cases o' with
        | next => cases r; exact ⟨N, Nat.lt_succ_self N, σ3, he, P2.trans P3⟩
        | brk => cases r; cases he; exact h _ _ rfl (P2.trans P3)
        | ret v => obtain ⟨u, rfl, z⟩ := r; cases he; exact h _ _ ⟨u, rfl, z⟩ (P2.trans P3)
        | exc c => exact r.elim
      · subst q
        cases he
        exact passes ar En.frame hB (X.back P2) fun s' X' => hx c x s' rfl X'

theorem try_ok (K : Facts F T) (lk : LabOk F lab) (ar : Ard A (env :: envs) (L :: fs)) (En : EnvOk env ns L) (I : Inv F L fs σ.ρ σ.φ s.heap) {c : PySem.Str} {b : List Stmt} {p1 p2 p3 pos : Pos}
    (hg : isGlob ns c = true) (hc : c ∈ labN)
    (h : wpAny (model prg F.w) A (execs b env) (fun fl s' => match fl with | .next => Q .next s' | fl => Q fl s')
      (fun x s' => ∃ c' σ', ExP F lab L fs c' σ' s x s' ∧ (c' = c → ∀ s'', PS F L fs σ' s s'' → Q .next s'') ∧ (c' ≠ c → ∀ s'', ExP F lab L fs c' σ' s x s'' → E x s'')) s) :
    wpAny (model prg F.w) A (exec (.Try b [.ExceptHandler (some (.Name c p1)) Option.none [.Pass p2] p3] [] [] pos) env) Q E s := by
  have hB := I.base
  refine wpAny_Try_except (wpAny_mono h (fun fl s1 h1 => ?_) fun x s1 h1 => ?_)
  · cases fl
    · exact wpAny_execs_nil h1
    all_goals exact h1
  · obtain ⟨c', σ', X, y, z⟩ := h1
    refine noted_ok ar En.frame hB X fun e s2 hc' q P x' => ?_
    subst q
    refine fly_ok P hB x' fun s3 P' x'' => ?_
    refine wpAny_handleBy_cons (codeAny_handlers_test ?_) (by intro q; cases q)
    refine name_glob K En P'.inv hg (lk.own c hc).bound ?_
    have X0 := K.X.keeps P'.inv.base
    have ex := lk.exm c hc c' hc'
    have LT : Looks (model prg F.w) s3.heap (typeOf (.ref e)) (.ref (lab c')) := by
      obtain ⟨_, oe, vs, q1, q2, _⟩ := x''
      rw [← q2]
      exact (Looks.ld q1).andThen .now
    refine (exm_one X0 LT ex).here ?_
    cases q : c' == c with
    | true =>
      dsimp only
      refine codeAny_handlers_suite (fly_ok P' hB x'' fun s4 P4 x4 => ?_)
      exact wpAny_execs_cons (wpAny_Pass (wpAny_execs_nil (y (beq_str q) s4 P4)))
    | false =>
      dsimp only
      refine wpAny_handleBy_nil ?_
      unfold PySem.passOn
      refine wpAny_bind (exc_field x'' fun T => ?_)
      rw [if_neg (by simp)]
      refine wpAny_bind (fly_ok P' hB x'' fun s4 P4 x4 => wpAny_throw ?_)
      refine z (by simpa using q) s4 ⟨hc', e, _, rfl, P4, x4, ?_⟩
      rw [En.frame]; exact .inr rfl

theorem raise_ok (K : Facts F T) (lk : LabOk F lab) (ar : Ard A (env :: envs) (L :: fs)) (En : EnvOk env ns L) (I : Inv F L fs σ.ρ σ.φ s.heap) {c : PySem.Str} {p1 p2 pos : Pos}
    (hg : isGlob ns c = true) (hc : c ∈ labN) (h : ∀ x s', ExP F lab L fs c σ s x s' → E x s') : wpAny (model prg F.w) A (exec (.Raise (some (.Call (.Name c p1) [] [] p2)) Option.none pos) env) Q E s := by
  have O := (lk.own c hc).keeps I.base
  obtain ⟨tl, N, nm, q, bs, hdct, sn, sub, ab, col, dd, k0, k1, k2, k3, k5, mN, hC, hN, hni, TL⟩ := O.obj
  refine wpAny_Raise_call_subT (C := lab c) (nm := nm) (q := q) (N := N) (bs := bs) (bm := tl) (hdct := hdct) (sn := sn) (sub := sub) (ab := ab) (col := col) (dd := dd) (k0 := k0) (k1 := k1) (k2 := k2) (k3 := k3) (k5 := k5)
    PySem.F.excBase_Exception (mN := mN) (TL.hasType PySem.F.excBase_Exception.hasBase) ar.none rfl hni (name_glob K En I hg (lk.own c hc).bound ⟨rfl, ?_⟩)
  refine evalArgs_empty ⟨rfl, Nat.zero_le _, hC, hN, TL, fun h' e mx => ?_⟩
  obtain ⟨t, he, nt, ht⟩ := mx.there
  refine h _ _ ⟨hc, e, Option.none, rfl, ⟨I.grow mx.keeps, Kp.of_grow mx.keeps, rfl, rfl⟩, ⟨mx.new, _, _, he, rfl, rfl, by simp, rfl⟩, .inl rfl⟩
end
end Nor
end

section
open PySem PySem.W PyProof.Rows PySem.Calls
set_option Elab.async false
set_option maxRecDepth 100000
namespace Nor

/-- what an iterator still holds -/
inductive Src (F : Fx) (h : Heap) (it : Addr) : List MV → Prop
  | lst (l : Addr) (i : Nat) (vs : Array Value) (ms : List MV) (a : h.IsListIter it l i) (b : h.IsList l vs) (r : VRs F h (vs.toList.drop i) ms) : Src F h it ms
  | rng (x step : Int) (n : Nat) (a : IsRangeIter h it x n step) : Src F h it ((List.range n).map fun (k : Nat) => MV.int (x + (k : Int) * step))

noncomputable def Ext (it : Addr) (h h' : Heap) : Prop := ∀ b o, b ≠ it → h.get? b = some o → h'.get? b = some o

section
variable {F : Fx} {lab : PySem.Str → Addr} {T : Tab} {Φ : CallT} {k n : Nat} {A : Around} {E : Value → Shared → Prop} {s s₀ : Shared} {ns : List (PySem.Str × NameKind)} {σ σ' : St} {env : Env} {L : Addr} {envs : List Env} {fs : List Addr} {e C it : Addr}
  {Q : Flow → Shared → Prop} {o : Out}

theorem Src.obj {h : Heap} {ms : List MV} (S : Src F h it ms) : ∃ oe vs, h.get? it = some oe ∧ oe.data = .fields vs ∧ oe.cls ≠ .type "range" := by
  cases S with
  | lst l i vs ms a b r => obtain ⟨o, e, c, d⟩ := a; exact ⟨o, _, e, d, by rw [c]; decide⟩
  | rng x step n a => exact ⟨_, _, a, rfl, fun q => by simp at q⟩

theorem Src.ps {ms : List MV} {ρ φ : Fld} (I : Inv F L fs ρ φ s.heap) (P : PS F L fs σ s s') (S : Src F s.heap it ms) : Src F s'.heap it ms := by
  have keep : ∀ a o, s.heap.get? a = some o → (∀ es k, o.data ≠ .dict es k) → s'.heap.get? a = some o := fun a o e d => by
    have na := I.dicts.not e d
    exact (P.kp a o e fun m => na (List.mem_append_left _ m)).1 fun m => na (List.mem_append_right _ m)
  cases S with
  | lst l i vs ms a b r =>
    obtain ⟨o, e, c, d⟩ := a
    obtain ⟨o', e', c', n', d'⟩ := b
    exact .lst l i vs ms ⟨o, keep _ _ e (by rw [d]; exact fun es k q => by cases q), c, d⟩ ⟨o', keep _ _ e' (by rw [d']; exact fun es k q => by cases q), c', n', d'⟩ (VRs.kp P.kp I.dicts r)
  | rng x step n a => exact .rng x step n (keep _ _ a (fun es k q => by cases q))

theorem range_cons (n : Nat) (x step : Int) : (List.range (n + 1)).map (fun (k : Nat) => MV.int (x + (k : Int) * step)) = MV.int x :: (List.range n).map fun (k : Nat) => MV.int (x + step + (k : Int) * step) := by
  rw [List.range_succ_eq_map, List.map_cons, List.map_map]
  congr 1
  · simp
  · refine List.map_congr_left fun k _ => ?_
    show MV.int (x + ((k + 1 : Nat) : Int) * step) = _
    congr 1
    rw [Int.natCast_add, Int.natCast_one, Int.add_mul, Int.one_mul]
    omega

theorem next_ok {Q : Option Value → Shared → Prop} {ms : List MV} (hh : A.handled = Option.none) (S : Src F s.heap it ms)
    (h0 : ms = [] → ∀ h' t, Ext it s.heap h' → Q Option.none { s with heap := h', toks := t })
    (h1 : ∀ v r u h' t, ms = v :: r → VR F h' u v → Src F h' it r → Ext it s.heap h' → Q (some u) { s with heap := h', toks := t }) : wpAny (model prg F.w) A (pyNext (.ref it)) Q E s := by
  have vrs : ∀ {h' : Heap}, Ext it s.heap h' → ∀ {vs : List Value} {ms : List MV}, VRs F s.heap vs ms → VRs F h' vs ms := fun {h'} x {vs ms} r => by
    obtain ⟨oe, fs, e, d, c⟩ := S.obj
    refine r.kpm (D := [it]) (fs := []) (fun b o z nb => ?_) (fun b m o z => ?_)
    · have q := x b o (fun q => nb (List.mem_singleton.mpr q)) z
      exact ⟨fun _ => q, fun _ => ⟨o.slots, q⟩⟩
    · obtain rfl := List.mem_singleton.mp m
      rw [e] at z; cases z
      exact ⟨(fun xs n q => by rw [d] at q; cases q), (fun ⟨q, _⟩ => c q)⟩
  cases S with
  | lst l i vs ms a b r =>
    have hne : l ≠ it := fun q => by
      obtain ⟨o, e, c, d⟩ := a
      obtain ⟨o', e', c', n', d'⟩ := b
      rw [q, e] at e'; cases e'; rw [d] at d'; cases d'
    cases q : vs.toList.drop i with
    | nil =>
      rw [q] at r
      cases r
      have hx : vs[i]? = Option.none := by
        rw [← Array.getElem?_toList, List.getElem?_eq_none_iff]
        exact List.drop_eq_nil_iff.mp q
      exact wpAny_pyNext_list_end hh a b hx fun h' x => h0 rfl h' s.toks x
    | cons u us =>
      rw [q] at r
      cases r with
      | cons kk r =>
        rename_i m ms
        have hx : vs[i]? = some u := by
          rw [← Array.getElem?_toList, List.getElem?_eq_some_iff]
          have hl : i < vs.toList.length := by
            refine Classical.byContradiction fun z => ?_
            rw [List.drop_eq_nil_iff.mpr (by omega)] at q; cases q
          exact ⟨hl, by rw [List.drop_eq_getElem_cons hl] at q; exact (List.cons.inj q).1⟩
        refine wpAny_pyNext_list_item a b hx fun h' a' sb => ?_
        have x : Ext it s.heap h' := fun b o ne z => (sb.2 b ne).trans z
        have r' := vrs x (VRs.cons kk r)
        cases r' with
        | cons kk' r' =>
          have b' : h'.IsList l vs := by obtain ⟨o, e, z⟩ := b; exact ⟨o, x _ _ hne e, z⟩
          refine h1 m ms u h' s.toks rfl kk' (.lst l (i + 1) vs ms a' b' ?_) x
          have : vs.toList.drop (i + 1) = us := by
            have := congrArg (List.drop 1) q
            rw [List.drop_drop] at this
            simpa using this
          rw [this]; exact r'
  | rng x step n a =>
    cases n with
    | zero => exact wpAny_pyNext_range_end hh a (by simp) fun h' z => h0 rfl h' s.toks z
    | succ n =>
      refine wpAny_pyNext_range_item a (by omega) fun h' a' sb => ?_
      refine h1 _ _ _ _ _ (range_cons n x step) (.int x _) ?_ (fun b o ne z => (sb.2 b ne).trans z)
      refine .rng _ _ n ?_
      have : ((n + 1 : Nat) : Int) - 1 = (n : Int) := by omega
      rwa [this] at a'

theorem iter_ok {Q : Value → Shared → Prop} {u : Value} {v : MV} {ms : List MV} (r : VR F s.heap u v) (e : itemsOf v = some ms)
    (h : ∀ it h', s.heap.get? it = Option.none → (∀ b o, s.heap.get? b = some o → h'.get? b = some o) → Src F h' it ms → Q (.ref it) { s with heap := h' }) : wpAny (model prg F.w) A (pyIter u) Q E s := by
  have nn : s.heap.get? s.heap.objs.size = Option.none := by
    cases q : s.heap.get? s.heap.objs.size with
    | none => rfl
    | some o => exact absurd (Heap.lt_size q) (Nat.lt_irrefl _)
  cases r with
  | list a vs l i z r =>
    cases e
    refine wpAny_pyIter_list i (h _ _ nn (fun b o z => Heap.get?_push_of_some _ z) (.lst a 0 vs.toArray _ ⟨_, Heap.get?_push_size _ rfl, rfl, rfl⟩ (i.push _) ?_))
    have g := Gr.push s { cls := .type "list_iterator", data := .fields #[.ref a, .int 0 0] }
    simpa using VRs.gr g r
  | range rr a b c t u w kk =>
    obtain ⟨q, e⟩ := cond_some e
    simp only [Bool.and_eq_true, Bool.or_eq_true, beq_iff_eq] at q
    obtain ⟨⟨fa, fb⟩, hc⟩ := q
    have fa := fits_spec fa
    have fb := fits_spec fb
    cases e
    have sz : ∃ n : Nat, Builtin.Range.rangeSize a b c = n ∧ n ≤ 2000000000001 ∧ rangeL a b c = (List.range n).map fun (k : Nat) => MV.int (a + (k : Int) * c) := by
      rcases hc with rfl | rfl
      · refine ⟨(b - a).toNat, ?_, by omega, ?_⟩
        · unfold Builtin.Range.rangeSize
          rw [if_pos (by decide)]
          split <;> omega
        · unfold rangeL
          simp
      · refine ⟨(a - b).toNat, ?_, by omega, ?_⟩
        · unfold Builtin.Range.rangeSize
          rw [if_neg (by decide)]
          have : -(-1 : Int) = 1 := by decide
          rw [this, Int.ediv_one]
          split <;> omega
        · unfold rangeL
          simp only [Int.reduceNeg, Int.reduceLT, decide_false, cond_false]
          refine List.map_congr_left fun k _ => ?_
          congr 1; omega
    obtain ⟨n, z1, z2, z3⟩ := sz
    refine wpAny_pyIter_range kk ?_ ?_
    · unfold Builtin.Range.small Builtin.Range.rangeFitsLong
      rw [z1]
      rcases hc with rfl | rfl <;> (simp; omega)
    · rw [z1]
      rw [z3] at h
      exact h _ _ nn (fun b o z => Heap.get?_push_of_some _ z) (.rng a c n (Heap.get?_push_size _ rfl))
  | _ => cases e

theorem for_ok (ih : SOk F lab T Φ k n) (hr : Room A k) (ar : Ard A (env :: envs) (L :: fs)) (En : EnvOk env ns L) (I : Inv F L fs σ.ρ σ.φ s.heap) {x : PySem.Str} {p : Pos} {b : List Stmt} {u : Value} {v : MV} {ms : List MV}
    (hl : isLoc ns x = true) (r : VR F s.heap u v) (e : itemsOf v = some ms) (he : forL x (fun σ => exS T Φ ns n σ b) ms σ = some (o, σ'))
    (h : ∀ fl s', FlR F s'.heap o fl → PS F L fs σ' s s' → Q fl s') :
    wpAny (model prg F.w) A (pyIter u) (fun it s₂ =>
      codeAny (model prg F.w) A (.forLoop (.Name x p) it b [] env) (fun r s' => match r with | .ok f => Q f s' | .error e => cameBackBy (model prg F.w) A env E e s') s₂) E s := by
  have hB := I.base
  refine iter_ok r e fun it h' nn gr S => ?_
  refine codeAny_forLoop (fun N s1 => ∃ σ1 ms1, N = ms1.length ∧ forL x (fun σ => exS T Φ ns n σ b) ms1 σ1 = some (o, σ') ∧ PS F L fs σ1 s s1 ∧ Src F s1.heap it ms1) ?_ ms.length
    ⟨σ, ms, rfl, he, ⟨I.grow gr, Kp.of_grow gr, rfl, rfl⟩, S⟩
  rintro N s1 ⟨σ1, ms1, rfl, he1, P1, S1⟩
  obtain ⟨oe, vs, o1, o2, o3⟩ := S1.obj
  refine next_ok ar.none S1 (fun q h2 t x2 => ?_) fun v r u h2 t q rv S2 x2 => ?_
  · subst q
    cases he1
    exact wpAny_execs_nil (h _ _ rfl (P1.turn hB nn x2 o1 o2 o3))
  · subst q
    have P2 := P1.turn (t := t) hB nn x2 o1 o2 o3
    refine wpAny_assign_Name (store_loc En P2.inv hl rv fun s3 P3 => ?_)
    obtain ⟨⟨o', σ3⟩, e2, he2⟩ := Option.bind_eq_some_iff.mp he1
    have S3 := S2.ps P2.inv P3
    have P3' := P2.trans P3
    refine ih e2 hr ar En P3.inv (fun fl s4 rf P4 => ?_) fun c x s4 q X => ?_
    · cases o' with
      | next => cases rf; exact ⟨r.length, Nat.lt_succ_self _, σ3, r, rfl, he2, P3'.trans P4, S3.ps P3.inv P4⟩
      | brk => cases rf; cases he2; exact h _ _ rfl (P3'.trans P4)
      | ret v => obtain ⟨u, rfl, z⟩ := rf; cases he2; exact h _ _ ⟨u, rfl, z⟩ (P3'.trans P4)
      | exc c => exact rf.elim
    · subst q
      cases he2
end
end Nor
end

section
open PySem PySem.W PyProof.Rows PySem.Calls
set_option Elab.async false
set_option maxRecDepth 100000
namespace Nor

section
variable {F : Fx} {lab : PySem.Str → Addr} {T : Tab} {Φ : CallT} {k n : Nat} {A : Around} {E : Value → Shared → Prop} {s s₀ : Shared} {ns : List (PySem.Str × NameKind)} {σ σ' : St} {env : Env} {L : Addr} {envs : List Env} {fs : List Addr} {e C it : Addr}
  {Q : Flow → Shared → Prop} {o : Out}

theorem notSwap {e : Expr} {t : Option Expr} {l : Nat} {env : Env} (h : isComp e = false) : swapsWith e t l env = pure false := by
  cases e <;> first | rfl | cases h
theorem notInter (En : EnvOk env ns L) : interactive env = false := by
  unfold interactive; rw [En.kind]; rfl
theorem notFold {φ : Fld} {r : MV × Fld} {e : Expr} {ρ : Fld} {n : Nat} (h : evE T Φ ns ρ n φ e = some r) (x : Value) : foldedSetIterable e env x = pure x := by
  cases e <;> first | rfl | (cases n <;> exact no_some h)
theorem aug_ok {Q : Value → Shared → Prop} {op : Operator} {a b c : MV} {u v : Value} (he : augMV op a b = some c) (x : VR F s.heap u a) (y : VR F s.heap v b)
    (h : ∀ r s', VR F s'.heap r c → Gr s s' → Q r s') : wpAny (model prg F.w) A (inplaceOp op u v) Q E s := by
  cases op with
  | Add =>
    obtain ⟨i, j, rfl, rfl, e⟩ := int2_inv he
    obtain ⟨t, rfl⟩ := x.inv
    obtain ⟨t', rfl⟩ := y.inv
    exact ibin_ok (op := .Add) e (.inl rfl) h
  | Sub =>
    obtain ⟨i, j, rfl, rfl, e⟩ := int2_inv he
    obtain ⟨t, rfl⟩ := x.inv
    obtain ⟨t', rfl⟩ := y.inv
    exact ibin_ok (op := .Sub) e (.inr rfl) h
  | _ => exact no_some he
theorem putF_spec {a : PySem.Str} {v : MV} {φ φ' : Fld} (h : putF a v φ = some φ') : a ∈ fieldNames ∧ φ' = put a v φ := by
  unfold putF at h
  obtain ⟨q, h⟩ := cond_some h
  exact ⟨List.contains_iff_mem.mp q, (Option.some.inj h).symm⟩
theorem store_fld' (K : Facts F T) {Q : Unit → Shared → Prop} {a : PySem.Str} {u : Value} {v : MV} {φ' : Fld} (I : Inv F L fs σ.ρ σ.φ s.heap) (ha : putF a v σ.φ = some φ') (r : VR F s.heap u v)
    (h : ∀ s', PS F L fs ⟨σ.ρ, φ'⟩ s s' → Q () s') : wpAny (model prg F.w) A (setAttr (.ref F.x) a u) Q E s := by
  obtain ⟨m, rfl⟩ := putF_spec ha
  exact store_fld K I m r h
theorem drop_plain {h : Heap} {u : Value} {v : MV} (x : VR F h u v) (d : droppable v = true) (a : Addr) : u ≠ .ref a := by
  intro q; subst q; cases x <;> cases d

/-- what must hold behind a statement -/
structure Aft (F : Fx) (lab : PySem.Str → Addr) (L : Addr) (fs : List Addr) (s : Shared) (Q : Flow → Shared → Prop) (E : Value → Shared → Prop) (o : Out) (σ : St) : Prop where
  ok : ∀ fl s', FlR F s'.heap o fl → PS F L fs σ s s' → Q fl s'
  ex : ∀ c x s', o = .exc c → ExP F lab L fs c σ s x s' → E x s'
theorem soundS (K : Facts F T) (lk : LabOk F lab) (Ck : CallOk F Φ k) (CO : CompOk F) (n : Nat) : SOk F lab T Φ k n := by
  induction n with
  | zero => exact fun h => no_some h
  | succ n ih =>
    intro ns σ b o σ' he A env L envs fs E Q s hr ar En I h hx
    cases b with
    | nil => cases he; exact wpAny_execs_nil (h _ _ rfl (.refl I))
    | cons st rest =>
      obtain ⟨⟨o1, σ1⟩, e1, he⟩ := Option.bind_eq_some_iff.mp he
      dsimp only at he
      have ev : EOk F T Φ k depth := (sound K Ck CO depth).1
      have main : ∀ {Q' : Flow → Shared → Prop}, Aft F lab L fs s Q' E o1 σ1 → wpAny (model prg F.w) A (exec st env) Q' E s := by
        intro Q' H
        refine Classical.byContradiction fun no => ?_
        have iv := viewS_inv st
        replace e1 : exV T Φ ns (exS T Φ ns n) σ (viewS st) = some (o1, σ1) := e1
        generalize viewS st = vw at iv e1
        cases vw with
        | pass =>
          obtain ⟨p, rfl⟩ := iv
          cases e1; exact no (wpAny_Pass (H.ok _ _ rfl (.refl I)))
        | brk =>
          obtain ⟨p, rfl⟩ := iv
          cases e1; exact no (wpAny_Break (H.ok _ _ rfl (.refl I)))
        | retN =>
          obtain ⟨p, rfl⟩ := iv
          cases e1; exact no (wpAny_Return_none (H.ok _ _ ⟨_, rfl, .none⟩ (.refl I)))
        | ret e =>
          obtain ⟨p, rfl⟩ := iv
          obtain ⟨⟨v, φ⟩, e2, q⟩ := Option.map_eq_some_iff.mp e1
          cases q
          exact no (wpAny_Return_some (ev e2 hr ar En I fun u s1 x P => H.ok _ _ ⟨u, rfl, x⟩ P.ps))
        | exp e =>
          obtain ⟨p, rfl⟩ := iv
          obtain ⟨q, e2⟩ := cond_some' e1
          obtain ⟨⟨v, φ⟩, e3, e4⟩ := Option.bind_eq_some_iff.mp e2
          obtain ⟨d, e5⟩ := cond_some e4
          cases e5
          refine no (wpAny_Expr (ev e3 hr ar En I fun u s1 x P => ?_) (notInter En) (notSwap q))
          have dp := drop_plain x d
          have hq := H.ok Flow.next s1 rfl P.ps
          clear x
          cases u <;> first | exact hq | exact (dp _ rfl).elim
        | asgN x e =>
          obtain ⟨p, p', rfl⟩ := iv
          obtain ⟨q, e2⟩ := cond_some e1
          obtain ⟨⟨v, φ⟩, e3, q2⟩ := Option.map_eq_some_iff.mp e2
          cases q2
          obtain ⟨q1, q2'⟩ := Bool.and_eq_true_iff.mp q
          replace q2' := (Bool.not_eq_true' _).mp q2'
          exact no (wpAny_Assign_Name (ev e3 hr ar En I fun u s1 x P => store_loc (σ := ⟨σ.ρ, φ⟩) En P.inv q1 x fun s2 P2 => H.ok _ _ rfl (P.ps.trans P2)) (notSwap q2'))
        | asgA c a e =>
          obtain ⟨p, p', p'', rfl⟩ := iv
          obtain ⟨q, e2⟩ := cond_some e1
          obtain ⟨⟨v, φ⟩, e3, e4⟩ := Option.bind_eq_some_iff.mp e2
          obtain ⟨ob, e5, e6⟩ := Option.bind_eq_some_iff.mp e4
          obtain ⟨q1, q2'⟩ := Bool.and_eq_true_iff.mp q
          replace q2' := (Bool.not_eq_true' _).mp q2'
          cases ob with
          | self =>
            obtain ⟨φ', e7, q2⟩ := Option.map_eq_some_iff.mp e6
            cases q2
            refine no (plainObj_wpAny_Assign_Attribute (ev e3 hr ar En I fun u s1 x P => name_loc En P.inv q1 e5 fun o r => ?_) (notSwap q2'))
            obtain rfl := r.inv
            exact store_fld' (σ := ⟨σ.ρ, φ⟩) K P.inv e7 x fun s2 P2 => H.ok _ _ rfl (P.ps.trans P2)
          | _ => exact no_some e6
        | augN x op e =>
          obtain ⟨p, p', rfl⟩ := iv
          obtain ⟨q, e2⟩ := cond_some e1
          obtain ⟨w, e3, e4⟩ := Option.bind_eq_some_iff.mp e2
          obtain ⟨⟨v, φ⟩, e5, e6⟩ := Option.bind_eq_some_iff.mp e4
          obtain ⟨c, e7, q2⟩ := Option.map_eq_some_iff.mp e6
          cases q2
          obtain ⟨a, bb⟩ := loc_spec q
          obtain ⟨m, nn, f⟩ := I.l
          obtain ⟨u, z, r⟩ := f _ _ e3
          refine no (wpAny_AugAssign_Name (wpAny_loadName_local En.kind ((kindOf_eq En _).trans a) (En.loc ▸ nn) z ?_))
          refine ev e5 hr ar En I fun u2 s1 x P => aug_ok e7 (P.vr I r) x fun r s2 y g => ?_
          have P2 := P.trans (.of_gr P.inv g)
          exact store_loc (σ := ⟨σ.ρ, φ⟩) En P2.inv q y fun s3 P3 => H.ok _ _ rfl (P2.ps.trans P3)
        | augA c a op e =>
          obtain ⟨p, p', p'', rfl⟩ := iv
          obtain ⟨q, e2⟩ := cond_some e1
          obtain ⟨ob, e3, e4⟩ := Option.bind_eq_some_iff.mp e2
          cases ob with
          | self =>
            obtain ⟨w, e5, e6⟩ := Option.bind_eq_some_iff.mp e4
            obtain ⟨⟨v, φ⟩, e7, e8⟩ := Option.bind_eq_some_iff.mp e6
            obtain ⟨c, e9, e10⟩ := Option.bind_eq_some_iff.mp e8
            obtain ⟨φ', e11, q2⟩ := Option.map_eq_some_iff.mp e10
            cases q2
            refine no (wpAny_AugAssign_AttributeAny (name_loc En I q e3 fun o r => ?_))
            obtain rfl := r.inv
            refine get_fld K I.c (putF_spec e11).1 e5 fun u0 r0 => ?_
            have g0 := Gr.tok s (s.toks + 1)
            have P0 : PV F L fs σ.ρ σ.φ s { s with toks := s.toks + 1 } := .of_gr I g0
            refine ev e7 hr ar En P0.inv fun u2 s1 x P => aug_ok e9 (P.vr P0.inv (r0.gr g0)) x fun r s2 y g => ?_
            have P2 := (P0.trans P).trans (.of_gr P.inv g)
            exact store_fld' (σ := ⟨σ.ρ, φ⟩) K P2.inv e11 y fun s3 P3 => H.ok _ _ rfl (P2.ps.trans P3)
          | _ => exact no_some e4
        | ifs t b o =>
          obtain ⟨p, rfl⟩ := iv
          obtain ⟨⟨c, φ⟩, e2, e3⟩ := Option.bind_eq_some_iff.mp e1
          dsimp only at e3
          refine no (wpAny_If (soundB K Ck CO depth e2 hr ar En I fun s1 P => ?_))
          cases c with
          | true => rw [if_pos rfl]; exact ih e3 hr ar En P.inv (fun fl s2 r P2 => H.ok fl s2 r (P.ps.trans P2)) fun c x s2 q X => H.ex c x s2 q (X.back P.ps)
          | false => rw [if_neg Bool.false_ne_true]; exact ih e3 hr ar En P.inv (fun fl s2 r P2 => H.ok fl s2 r (P.ps.trans P2)) fun c x s2 q X => H.ex c x s2 q (X.back P.ps)
        | whl t b =>
          obtain ⟨p, rfl⟩ := iv
          exact no (while_ok K Ck CO ih hr ar En I e1 H.ok H.ex)
        | fors x it b =>
          obtain ⟨p, p', rfl⟩ := iv
          obtain ⟨q, e2⟩ := cond_some e1
          obtain ⟨⟨v, φ⟩, e3, e4⟩ := Option.bind_eq_some_iff.mp e2
          obtain ⟨ms, e5, e6⟩ := Option.bind_eq_some_iff.mp e4
          exact no (wpAny_For (ev e3 hr ar En I fun u s1 x P => for_ok (σ := ⟨σ.ρ, φ⟩) ih hr ar En P.inv q x e5 e6 fun fl s2 r P2 => H.ok fl s2 r (P.ps.trans P2)) (notFold e3))
        | rais c =>
          obtain ⟨p, p', p'', rfl⟩ := iv
          obtain ⟨q, e2⟩ := cond_some e1
          cases e2
          have q := Bool.and_eq_true_iff.mp q
          exact no (raise_ok K lk ar En I q.1 (List.contains_iff_mem.mp q.2) fun x s' X => H.ex _ x s' rfl X)
        | tri b c =>
          obtain ⟨p, p', p'', p3, rfl⟩ := iv
          obtain ⟨q, e2⟩ := cond_some e1
          obtain ⟨⟨o', σ2⟩, e3, e4⟩ := Option.map_eq_some_iff.mp e2
          have q := Bool.and_eq_true_iff.mp q
          refine no (try_ok K lk ar En I q.1 (List.contains_iff_mem.mp q.2) (ih e3 hr ar En I (fun fl s1 r P => ?_) fun c x s1 z X => ?_))
          · cases o' with
            | next => cases e4; cases r; exact H.ok _ _ rfl P
            | brk => cases e4; cases r; exact H.ok _ _ rfl P
            | ret v => cases e4; obtain ⟨u, rfl, z⟩ := r; exact H.ok _ _ ⟨u, rfl, z⟩ P
            | exc c => exact r.elim
          · subst z
            refine ⟨c, σ2, X, fun z s2 P => ?_, fun z s2 X => ?_⟩
            · dsimp only at e4
              rw [z] at e4
              simp only [beq_self_eq_true, cond_true] at e4
              cases e4
              exact H.ok _ _ rfl P
            · dsimp only at e4
              rw [beq_eq_false_iff_ne.mpr z] at e4
              cases e4
              exact H.ex _ x s2 rfl X
        | asrt t =>
          obtain ⟨p, rfl⟩ := iv
          obtain ⟨⟨c, φ⟩, e2, e3⟩ := Option.bind_eq_some_iff.mp e1
          obtain ⟨q, e4⟩ := cond_some e3
          cases e4
          subst q
          exact no (wpAny_Assert_holds (soundB K Ck CO depth e2 hr ar En I fun s1 P => ⟨rfl, H.ok _ _ rfl P.ps⟩))
        | oth => exact no_some e1
      refine wpAny_execs_cons (main ⟨fun fl s1 r P => ?_, fun c x s1 q X => ?_⟩)
      · cases o1 with
        | next => cases r; exact ih he hr ar En P.inv (fun fl s2 r P2 => h fl s2 r (P.trans P2)) fun c x s2 q X => hx c x s2 q (X.back P)
        | brk => cases he; cases r; exact h _ _ rfl P
        | ret v => cases he; obtain ⟨u, rfl, z⟩ := r; exact h _ _ ⟨u, rfl, z⟩ P
        | exc c => exact r.elim
      · subst q; cases he; exact hx c x s1 rfl X
end
end Nor
end

section
open PySem PySem.W PyProof.Rows PySem.Calls
set_option Elab.async false
set_option maxRecDepth 100000
namespace Nor

section
variable {F : Fx} {lab : PySem.Str → Addr} {T : Tab} {Φ : CallT} {k l : Nat} {A : Around} {E : Value → Shared → Prop} {s s₀ : Shared} {fs : List Addr} {φ : Fld}

theorem zip_lookup {h : Heap} : ∀ {ps : List PySem.Str} {us : List Value} {as : List MV}, ps.Nodup → VRs F h us as → ∀ {y v}, get y (ps.zip as) = some v → ∃ u, (ps.zip us).reverse.lookup y = some u ∧ VR F h u v
  | [], _, _, _, _, y, v, e => by cases e
  | p :: ps, _, _, nd, .nil, y, v, e => by cases e
  | p :: ps, _, _, nd, .cons (v := u) (m := m) (vs := us) (ms := as) k r, y, v, e => by
    have none_of : ∀ (ps : List PySem.Str) (us : List Value), p ∉ ps → (ps.zip us).reverse.lookup p = Option.none := by
      intro ps
      induction ps with
      | nil => intro us _; rfl
      | cons q ps ih =>
        intro us n
        cases us with
        | nil => rfl
        | cons u us =>
          rw [List.zip_cons_cons, List.reverse_cons, List.lookup_append, ih us (fun m => n (.tail _ m))]
          have ne : (p == q) = false := by rw [beq_eq_false_iff_ne]; exact fun z => n (by rw [z]; exact .head _)
          simp [List.lookup, ne]
    obtain ⟨np, nd⟩ := List.nodup_cons.mp nd
    rw [List.zip_cons_cons] at e ⊢
    rw [List.reverse_cons, List.lookup_append]
    unfold get at e
    cases q : p == y with
    | true =>
      rw [q] at e
      cases e
      have q := beq_str q
      subst q
      rw [none_of ps us np]
      refine ⟨u, ?_, k⟩
      simp [List.lookup]
    | false =>
      rw [q] at e
      obtain ⟨u', e1, r'⟩ := zip_lookup nd r e
      exact ⟨u', by rw [e1]; rfl, r'⟩

/-- the value of a def, as a code's run -/
noncomputable def CallOkC (F : Fx) (Φ : CallT) (k : Nat) : Prop :=
  ∀ f as v φ φ', Φ f as φ = some (v, φ') → ∃ a o fd, (F.H.get? a = some o ∧ o.data = .func fd) ∧ AddrOf F f as a ∧
    ∀ (A : Around) (envs : List Env) (fs : List Addr) (R : Result → Shared → Prop) (s : Shared) (us : List Value),
    Room A k → Ard A envs fs → InvC F fs φ s.heap → VRs F s.heap us as →
    (∀ u s', VR F s'.heap u v → InvC F fs φ' s'.heap → Kp [F.dx] fs s.heap s'.heap → Sm s s' → R (.ok (.ret u)) s') → codeAny (model prg F.w) A (.call (.ref a) ⟨us, []⟩) R s
theorem CallOkC.ok {Φ : CallT} (c : CallOkC F Φ k) : CallOk F Φ k := by
  intro f as v φ φ' he
  obtain ⟨a, o, fd, h1, h2, h3⟩ := c f as v φ φ' he
  exact ⟨a, o, fd, h1, h2, fun A envs fs E Q s us hr ar I r h => wpAny_call (h3 A envs fs _ s us hr ar I r fun u s' a b c d => h u s' a b c d)⟩
theorem call_okC (K : Facts F T) (lk : LabOk F lab) (CO : CompOk F) (Ck : CallOk F (callN T l) k) : CallOkC F (callN T (l + 1)) (k + 1) := by
  intro f as v φ φ' he
  obtain ⟨d, e1, he⟩ := Option.bind_eq_some_iff.mp he
  obtain ⟨q, he⟩ := cond_some he
  obtain ⟨⟨o, σ'⟩, e2, he⟩ := Option.bind_eq_some_iff.mp he
  have at_ : ∃ a o fd, AddrOf F f as a ∧ FnAt F a d o fd := by
    unfold defTab at e1
    unfold AddrOf
    cases as with
    | nil => obtain ⟨a, o, fd, p, q⟩ := K.fn f d e1; exact ⟨a, o, fd, p, q⟩
    | cons m r =>
      cases m with
      | self => obtain ⟨a, o, fd, p1, p2, p3, q⟩ := K.meth f d e1; exact ⟨a, o, fd, ⟨p1, p2, p3⟩, q⟩
      | _ => obtain ⟨a, o, fd, p, q⟩ := K.fn f d e1; exact ⟨a, o, fd, p, q⟩
  obtain ⟨a, ob, fd, ad, fa⟩ := at_
  refine ⟨a, ob, fd, ⟨fa.at_, fa.data⟩, ad, ?_⟩
  intro A envs fs R s us hr ar I r h
  have len : us.length = d.params.length := by rw [r.length]; exact (beq_iff_eq.mp q).symm
  have nn : s.heap.get? s.heap.objs.size = Option.none := by
    cases q : s.heap.get? s.heap.objs.size with
    | none => rfl
    | some o => exact absurd (Heap.lt_size q) (Nat.lt_irrefl _)
  refine (codeAny_call_def (binds := d.params.zip us) (by have := hr.1; omega) (I.base _ _ fa.at_) fa.data (K.lim.keeps I.base) (fa.code.keeps I.base) fa.body (.of_eq (fa.bind us len)) fa.cell
    (fun x hx => fa.loc x.1 (List.of_mem_zip hx).1) (fun h₀ hn hk => ?_) fa.co fa.gen fa.kind)
  have ne : ∀ b, (∃ o, s.heap.get? b = some o) → b ≠ s.heap.objs.size := fun b ⟨o, z⟩ q => by rw [q, nn] at z; cases z
  have kp0 : Kp [] (F.dx :: fs) s.heap h₀ := Kp.of_grow hk
  have I0 : Inv F s.heap.objs.size fs (d.params.zip as) φ h₀ := by
    have Ig := I.grow hk
    refine ⟨⟨Ig.base, Ig.inst, Ig.dict, fun b m => ?_, fun m => ?_, fun b m => ?_⟩, ⟨_, hn, fun y v e => ?_⟩, fun m => ?_⟩
    · rcases List.mem_cons.mp m with rfl | m
      · exact ⟨_, hn⟩
      · exact Ig.fr b m
    · rcases List.mem_cons.mp m with m | m
      · obtain ⟨m', n, _⟩ := I.dict; exact ne _ (dict_at n.ns) m
      · exact I.nd m
    · rcases List.mem_cons.mp m with rfl | m
      · exact I.old _ (.head _)
      · rcases List.mem_cons.mp m with rfl | m
        · cases q : F.H.get? s.heap.objs.size with
          | none => rfl
          | some o => exact absurd rfl (ne _ ⟨o, I.base _ _ q⟩)
        · exact I.old b (.tail _ m)
    · obtain ⟨u, z, r'⟩ := zip_lookup fa.nodup r e
      exact ⟨u, z, r'.kp kp0 I.dicts⟩
    · obtain ⟨m', n⟩ := I.fr _ m
      exact ne _ (dict_at n) rfl
  refine soundS K lk Ck CO depth e2 (A := A.deeper (callEnv fd s.heap.objs.size a)) (env := callEnv fd s.heap.objs.size a) (L := s.heap.objs.size) (envs := envs) (fs := fs) (σ := ⟨d.params.zip as, φ⟩) ?_ ?_ ?_ I0 (fun fl s' rf P => ?_) fun c x s' z X => ?_
  · refine ⟨?_, ?_⟩
    · have := hr.1; show A.depth + 1 + 2 * k + 104 < _; omega
    · have := hr.2; show A.units + 3 + 40 * k + 40 < _; omega
  · refine ⟨ar.none, ?_, ?_, ?_⟩
    · show A.frames.map _ = _; rw [ar.fra]; rfl
    · show some s.heap.objs.size :: envs.map (·.frame) = some s.heap.objs.size :: fs.map some; rw [ar.fr]
    · intro e m
      rcases List.mem_cons.mp m with rfl | m
      · exact fa.kind
      · exact ar.kind e m
  · exact ⟨fa.kind, fa.names, rfl, fa.glob, fa.blt, rfl, fa.gen, fa.co⟩
  · have drop : InvC F fs σ'.φ s'.heap := by
      have c := P.inv.c
      exact ⟨c.base, c.inst, c.dict, fun b m => c.fr b (.tail _ m), fun m => c.nd (.tail _ m), fun b m => c.old b (by rcases List.mem_cons.mp m with rfl | m; exact .head _; exact .tail _ (.tail _ m))⟩
    have kp : Kp [F.dx] fs s.heap s'.heap := fun b o z nb => by
      have nb' : b ∉ [s.heap.objs.size, F.dx] := fun m => by
        rcases List.mem_cons.mp m with m | m
        · exact ne b ⟨o, z⟩ m
        · exact nb m
      exact P.kp b o (hk b o z) nb'
    have sm : Sm s s' := P.sm
    cases o with
    | next =>
      cases rf
      cases he
      exact h _ _ .none drop kp sm
    | ret w =>
      obtain ⟨u, rfl, z⟩ := rf
      cases he
      exact h _ _ z drop kp sm
    | brk => cases he
    | exc c => cases he
  · subst z; cases he
theorem call_zero (T : Tab) : CallOkC F (callN T 0) 0 := fun _ _ _ _ _ he => by cases he
theorem calls_okC (K : Facts F T) (lk : LabOk F lab) (CO : CompOk F) : ∀ l, CallOkC F (callN T l) l
  | 0 => call_zero T
  | l + 1 => call_okC K lk CO (calls_okC K lk CO l).ok
theorem calls_ok (K : Facts F T) (lk : LabOk F lab) (CO : CompOk F) (l : Nat) : CallOk F (callN T l) l := (calls_okC K lk CO l).ok
end
end Nor
end

section
open PySem PySem.W PyProof.Rows PySem.Calls
set_option Elab.async false
set_option maxRecDepth 100000
namespace Nor

/-- the same ground, with a stemmer's place -/
noncomputable def Fx.wth (F : Fx) (x dx : Addr) : Fx := { F with x := x, dx := dx }

section
variable {F : Fx} {lab : PySem.Str → Addr} {T : Tab} {l : Nat} {s : Shared}

theorem empty_ns1 {h : Heap} {a : Addr} (e : h.get? a = some emptyDict) : h.Ns1 a (fun _ => Option.none) :=
  ⟨_, #[], _, e, rfl, (fun e m => by simp at m), List.Pairwise.nil, fun _ => rfl⟩

theorem law_ok (K : ∀ x dx, Facts (F.wth x dx) T) (lk : ∀ x dx, LabOk (F.wth x dx) lab) (CO : ∀ x dx, CompOk (F.wth x dx)) (mk : makesIn F.K F.C = true) (kp : keepIn F.K (.ref F.C) = true)
    {d : Def} {di : Def} {rest : List Stmt} {p1 p2 p3 p4 : Pos} (hd : defOfS "law" prg.main.body = some d) (hdi : methOf "__init__" = some di) (hp : d.params = [("script" : PySem.Str)])
    (hb : d.body = .Assign [.Name "one" p1] (.Call (.Name "NorwegianStemmer" p2) [] [] p3) p4 :: rest) (ho : isLoc d.names "one" = true) (hs : isGlob d.names "NorwegianStemmer" = true)
    {u : Value} {il : List MV} (r : ∀ x dx, VR (F.wth x dx) F.H u (.list il)) {φ0 : Fld} {σ' : St} (hl : 301 + 2 * l + 150 < recursionLimit) (hl' : 7 + 40 * l + 200 < cLine)
    (init : callN T l "__init__" [.self] [] = some (.none, φ0)) (run : exS T (callN T l) d.names depth ⟨[("script", .list il), ("one", .self)], φ0⟩ rest = some (.ret (.bool true), σ')) (hH : s.heap = F.H) :
    ∃ a, F.mg "law" = some (.ref a) ∧ ∀ (E Q : Value → Shared → Prop), (∀ s', F.H.StaysIn s'.heap → Sm s s' → Q (.bool true) s') → wpAny (model prg F.w) callerA (call (.ref a) [u]) Q E s := by
  have K0 := K 0 0
  obtain ⟨a, o, fd, ga, fa⟩ := K0.fn "law" d hd
  obtain ⟨ai, oi, fdi, i1, i2, i3, fai⟩ := K0.meth "__init__" di hdi
  refine ⟨a, ga, fun E Q h => ?_⟩
  have base : F.H.StaysIn s.heap := fun b o e => by rw [hH]; exact e
  have len : [u].length = d.params.length := by rw [hp]; rfl
  refine wpAny_call (codeAny_call_def (binds := d.params.zip [u]) (by decide) (base _ _ fa.at_) fa.data (K0.lim.keeps base) (fa.code.keeps base) fa.body (.of_eq (fa.bind [u] len)) fa.cell
    (fun x hx => fa.loc x.1 (List.of_mem_zip hx).1) (fun h₀ hn hk => ?_) fa.co fa.gen fa.kind)
  have nn : s.heap.get? s.heap.objs.size = Option.none := by
    cases q : s.heap.get? s.heap.objs.size with
    | none => rfl
    | some o => exact absurd (Heap.lt_size q) (Nat.lt_irrefl _)
  have En : EnvOk (callEnv fd s.heap.objs.size a) d.names s.heap.objs.size := ⟨fa.kind, fa.names, rfl, fa.glob, fa.blt, rfl, fa.gen, fa.co⟩
  have ar1 : Ard (callerA.deeper (callEnv fd s.heap.objs.size a)) [callEnv fd s.heap.objs.size a] [s.heap.objs.size] :=
    ⟨rfl, rfl, rfl, fun e m => by rw [List.mem_singleton.mp m]; exact fa.kind⟩
  have base0 : F.H.StaysIn h₀ := fun b o e => hk b o (base b o e)
  have X0 : F.K.In h₀ := K0.X.keeps base0
  rw [hb]
  obtain ⟨gs, dr, tk, os⟩ := s
  dsimp only at *
  obtain ⟨qa, qb⟩ := glob_spec hs
  refine wpAny_execs_cons (wpAny_Assign_Name (wpAny_Call_ofName (Name_function_global En.kind ((kindOf_eq En _).trans qa) (loadGlobal_global (En.glob ▸ K0.g.keeps base0) K0.cls ?_) qb)))
  refine callWith_K0 X0 kp (wpAny_call (make_core (makes_of X0 mk) (looks_findIn X0 i1) (fun self => bind_fn X0 self (beq_iff_eq.mp i2)) (.inl rfl) ?_))
  have kp2 : ∀ b o, h₀.get? b = some o → ((h₀.push emptyDict).push (instObj F.C h₀.objs.size)).get? b = some o := fun b o e => Heap.get?_push_of_some _ (Heap.get?_push_of_some _ e)
  have hx : ((h₀.push emptyDict).push (instObj F.C h₀.objs.size)).get? (h₀.objs.size + 1) = some (instObj F.C h₀.objs.size) := by
    have := Heap.get?_push_size (h₀.push emptyDict) (o := instObj F.C h₀.objs.size) rfl
    rwa [Heap.size_push] at this
  have hdx : ((h₀.push emptyDict).push (instObj F.C h₀.objs.size)).get? h₀.objs.size = some emptyDict := Heap.get?_push_of_some _ (Heap.get?_push_size h₀ rfl)
  have n0 : h₀.get? h₀.objs.size = Option.none := by
    cases q : h₀.get? h₀.objs.size with
    | none => rfl
    | some o => exact absurd (Heap.lt_size q) (Nat.lt_irrefl _)
  obtain ⟨oL, eL⟩ := dict_at hn
  have F1 := K (h₀.objs.size + 1) h₀.objs.size
  have old : ∀ b ∈ [h₀.objs.size, gs.objs.size], F.H.get? b = Option.none := fun b m => by
    cases q : F.H.get? b with
    | none => rfl
    | some o =>
      rcases List.mem_cons.mp m with rfl | m
      · have := base0 _ _ q; rw [n0] at this; cases this
      · rw [List.mem_singleton.mp m] at q; have := base _ _ q; rw [nn] at this; cases this
  have ndL : h₀.objs.size ∉ [gs.objs.size] := fun m => by
    rw [← List.mem_singleton.mp m, n0] at eL; cases eL
  have I0 : InvC (F.wth (h₀.objs.size + 1) h₀.objs.size) [gs.objs.size] [] ((h₀.push emptyDict).push (instObj F.C h₀.objs.size)) :=
    ⟨fun b o e => kp2 b o (base0 b o e), hx, ⟨_, empty_ns1 hdx, fun _ _ => rfl, fun a => ⟨(fun v e => by cases e), fun _ => rfl⟩⟩,
      fun b m => by rw [List.mem_singleton.mp m]; exact ⟨_, hn.keeps kp2⟩, ndL, old⟩
  obtain ⟨a2, o2, fd2, ⟨q1, q2⟩, ⟨q3, q4, q5⟩, q6⟩ := calls_okC F1 (lk _ _) (CO _ _) l "__init__" [.self] .none [] φ0 init
  have ea : ai = a2 := by
    have := i1.symm.trans q3
    cases this; rfl
  subst ea
  refine q6 _ [callEnv fd gs.objs.size a] [gs.objs.size] _ _ [.ref (h₀.objs.size + 1)] ?_ ?_ I0 (.cons .self .nil) fun u2 s2 x2 I2 k2 sm2 => ?_
  · refine ⟨?_, ?_⟩
    · show 301 + 1 + _ + 2 * l + 104 < recursionLimit
      have : ∀ a r kw, (Code.builtin "type.__call__" ⟨.ref a :: r, kw⟩).weight = 1 := fun _ _ _ => by kernel_rfl
      rw [this]; omega
    · show 4 + 3 + _ + 40 * l + 40 < cLine
      have : ∀ args, (Code.builtin "type.__call__" args).cUnits = 1 := fun _ => by kernel_rfl
      rw [this]; omega
  · exact ⟨rfl, rfl, rfl, fun e m => by rw [List.mem_singleton.mp m]; exact fa.kind⟩
  · cases x2
    refine ⟨rfl, ?_⟩
    have Iv : Inv (F.wth (h₀.objs.size + 1) h₀.objs.size) gs.objs.size [] [("script", .list il)] φ0 s2.heap := by
      refine ⟨I2, ⟨_, k2.ns (hn.keeps kp2) (fun m => ndL (by rw [List.mem_singleton.mp m]; exact .head _)), fun y v e => ?_⟩, fun m => nomatch m⟩
      unfold get at e
      cases q : ("script" : PySem.Str) == y with
      | false => rw [q] at e; cases e
      | true =>
        rw [q] at e
        cases e
        have q := beq_str q
        subst q
        refine ⟨u, ?_, (VR.up (F := F.wth (h₀.objs.size + 1) h₀.objs.size) (fun b o e => kp2 b o (base0 b o e)) (r (h₀.objs.size + 1) h₀.objs.size)).kp k2 I0.dicts⟩
        rw [hp]; rfl
    refine store_loc (F := F.wth (h₀.objs.size + 1) h₀.objs.size) (σ := ⟨[("script", .list il)], φ0⟩) En Iv ho (.self) fun s3 P3 => ?_
    refine soundS (F := F.wth (h₀.objs.size + 1) h₀.objs.size) F1 (lk _ _) (calls_ok F1 (lk _ _) (CO _ _) l) (CO _ _) depth run (envs := []) (fs := []) ?_ ar1 En P3.inv (fun fl s4 rf P4 => ?_) fun c x s4 z X => by cases z
    · exact ⟨by show 301 + 1 + 2 * l + 104 < recursionLimit; omega, by show 4 + 3 + 40 * l + 40 < cLine; omega⟩
    · obtain ⟨u4, rfl, z⟩ := rf
      cases z
      exact h s4 P4.inv.base (((show Sm _ s2 from sm2).trans P3.sm).trans P4.sm)
end
end Nor
end

section
open PySem PySem.W PyProof.Rows PySem.Calls
set_option Elab.async false
set_option maxRecDepth 100000
namespace Nor

inductive Signs : List Value → List Nat → Prop
  | nil : Signs [] []
  | cons {c : Nat} {t : Tok} {us : List Value} {cs : List Nat} (r : Signs us cs) : Signs (.str ⟨#[c]⟩ t :: us) (c :: cs)
theorem Signs.snoc {us : List Value} {cs : List Nat} {c : Nat} {t : Tok} : Signs us cs → Signs (us ++ [.str ⟨#[c]⟩ t]) (cs ++ [c])
  | .nil => .cons .nil
  | .cons r => .cons r.snoc
theorem Signs.vrs {F : Fx} {h : Heap} {us : List Value} {cs : List Nat} : Signs us cs → VRs F h us (cs.map fun c => MV.str ⟨#[c]⟩)
  | .nil => .nil
  | .cons r => .cons (.str _ _ (by show 1 ≤ sizeLine; decide)) r.vrs
theorem Signs.length {us : List Value} {cs : List Nat} : Signs us cs → us.length = cs.length
  | .nil => rfl
  | .cons r => by rw [List.length_cons, List.length_cons, r.length]

noncomputable def sty (x : PySem.Str) : String := if x.cps.all (· < 128) then "str_ascii_iterator" else "str_iterator"
section
variable {prog : Program} {w : World} {A : Around} {E : Value → Shared → Prop} {s : Shared}
theorem siter {x : PySem.Str} {t : Tok} {Q : Value → Shared → Prop} (hQ : Q (.ref s.heap.objs.size) { s with heap := s.heap.push { cls := .type (sty x), data := .fields #[.str x t, .int 0 0] } }) :
    wpAny (model prog w) A (pyIter (.str x t)) Q E s := by
  unfold sty at hQ
  cases q : x.cps.all (· < 128) with
  | true => rw [q] at hQ; exact wpAny_pyIter_ascii q hQ
  | false => rw [q] at hQ; exact wpAny_pyIter_wide q hQ
theorem siter2 {it : Addr} {x : PySem.Str} {t : Tok} {i : Nat} {Q : Value → Shared → Prop} (hit : s.heap.IsStrIter it (sty x) x t i) (h : Q (.ref it) s) : wpAny (model prog w) A (pyIter (.ref it)) Q E s := by
  unfold sty at hit
  cases q : x.cps.all (· < 128) with
  | true => rw [q] at hit; exact wpAny_pyIter_striter_ascii hit h
  | false => rw [q] at hit; exact wpAny_pyIter_striter_wide hit h
theorem snext {it : Addr} {x : PySem.Str} {t : Tok} {i c : Nat} {Q : Option Value → Shared → Prop} (hit : s.heap.IsStrIter it (sty x) x t i) (hx : x.cps[i]? = some c)
    (hQ : ∀ h', h'.IsStrIter it (sty x) x t (i + 1) → Heap.SameBut it s.heap h' → Q (some (.str ⟨#[c]⟩ s.toks)) { s with heap := h', toks := s.toks + 1 }) :
    wpAny (model prog w) A (pyNext (.ref it)) Q E s := by
  unfold sty at hit hQ
  cases q : x.cps.all (· < 128) with
  | true => rw [q] at hit hQ; exact wpAny_pyNext_ascii_item hit hx hQ
  | false => rw [q] at hit hQ; exact wpAny_pyNext_wide_item hit hx hQ
theorem send {it : Addr} {x : PySem.Str} {t : Tok} {i : Nat} {Q : Option Value → Shared → Prop} (hh : A.handled = Option.none) (hit : s.heap.IsStrIter it (sty x) x t i) (hx : x.cps[i]? = Option.none)
    (hQ : ∀ h', Heap.ExtBut it s.heap h' → Q Option.none { s with heap := h' }) : wpAny (model prog w) A (pyNext (.ref it)) Q E s := by
  unfold sty at hit
  cases q : x.cps.all (· < 128) with
  | true => rw [q] at hit; exact wpAny_pyNext_ascii_end hh hit hx hQ
  | false => rw [q] at hit; exact wpAny_pyNext_wide_end hh hit hx hQ
end

theorem compOk {F : Fx} {T : Tab} (K : Facts F T) : CompOk F := by
  intro x g p1 p2 p3 pos sc st t A env ns L envs fs ρ φ E Q s hf hg hm hz hr ar En I h
  unfold compFine at hf
  split at hf
  case h_2 => cases hf
  rename_i ka na qa qb qk qn
  obtain ⟨hf, ndb⟩ := Bool.and_eq_true_iff.mp hf
  simp only [Bool.and_eq_true, beq_iff_eq] at hf
  obtain ⟨rfl, rfl⟩ := hf
  have hn : ∀ y ∈ sc.names, y = ((".0" : PySem.Str), .local) ∨ y = (qb, .local) := fun y m => by rw [qn] at m; simpa using m
  have hl : ∀ y, (y = (".0" : PySem.Str) ∨ y = qb) → sc.names.lookup y = some .local := fun y m => by
    rw [qn]
    rcases m with rfl | rfl
    · rfl
    · simp only [List.lookup]
      cases (y == (".0" : PySem.Str)) <;> simp
  refine wpAny_ListComp (fun y m => by rcases hn y m with rfl | rfl <;> exact fun q => by cases q) qk (fun y m _ => by rcases hn y m with rfl | rfl; exact hl _ (.inl rfl); exact hl _ (.inr rfl)) (name_glob K En I hg hm ?_)
  refine siter (wpAny_newObj_type (hd := by size_fits) (wpAny_newFunctionEnv (fun y m => by rcases hn y m with rfl | rfl <;> exact fun q => by cases q) (by intro y hy; simp at hy) (fun h₁ hns₁ hsb₁ => ?_) qk))
  obtain ⟨hp, gs, dr, tk, os⟩ := s
  dsimp only at hns₁ hsb₁ h ⊢
  generalize hH1 : hp.push { cls := .type (sty st), data := .fields #[.str st t, .int 0 0] } = H1 at hns₁ hsb₁ ⊢
  have hD : H1.objs.size = hp.objs.size + 1 := by rw [← hH1, Heap.size_push]
  generalize hH2 : H1.push { cls := .type "list", dict := Option.none, data := .seq ([] : List Value).toArray } = H2 at hns₁ hsb₁ ⊢
  have hC : H2.objs.size = hp.objs.size + 2 := by rw [← hH2, Heap.size_push, hD]
  have hDI : H1.objs.size ≠ hp.objs.size := by rw [hD]; exact Nat.succ_ne_self _
  have hDC : H1.objs.size ≠ H2.objs.size := by rw [hD, hC]; exact Nat.ne_of_lt (Nat.lt_succ_self _)
  have hIC : hp.objs.size ≠ H2.objs.size := by rw [hC]; exact Nat.ne_of_lt (Nat.lt_succ_of_lt (Nat.lt_succ_self _))
  have below : ∀ b, b < hp.objs.size → b ≠ H2.objs.size ∧ b ≠ hp.objs.size ∧ b ≠ H1.objs.size := fun b hb =>
    ⟨by rw [hC]; exact Nat.ne_of_lt (Nat.lt_succ_of_lt (Nat.lt_succ_of_lt hb)), Nat.ne_of_lt hb, by rw [hD]; exact Nat.ne_of_lt (Nat.lt_succ_of_lt hb)⟩
  have old : ∀ b o, hp.get? b = some o → h₁.get? b = some o := fun b o e =>
    hsb₁.extBut b o (below b (Heap.lt_size e)).1 (Heap.get?_push_of_some _ (hH2 ▸ Heap.get?_push_of_some _ (hH1 ▸ Heap.get?_push_of_some _ e)))
  have hit : h₁.IsStrIter hp.objs.size (sty st) st t 0 :=
    ⟨_, hsb₁.extBut _ _ hIC (Heap.get?_push_of_some _ (hH2 ▸ Heap.get?_push_of_some _ (hH1 ▸ Heap.get?_push_size _ rfl))), rfl, rfl⟩
  have hacc : h₁.IsList H1.objs.size #[] := ⟨_, hsb₁.extBut _ _ hDC (Heap.get?_push_of_some _ (hH2 ▸ Heap.get?_push_size _ rfl)), rfl, _, rfl⟩
  have loop : ∀ s₂ : Shared, s₂ = ⟨h₁, gs, dr, tk + ([] : List (PySem.Str × Value)).length, os⟩ →
      codeAny (model prg F.w) A (.compLoop (.ListComp (.Name qb p1) [⟨.Name qb p2, .Name g p3, [], 0⟩] sc pos) 0 (.ref hp.objs.size) (.ref H1.objs.size) (compEnv sc H2.objs.size env))
        (fun r s' => ∃ m, s'.heap.Ns H2.objs.size m ∧ ∀ h', Heap.SameBut H2.objs.size s'.heap h' →
          match r with | .ok _ => Q (.ref H1.objs.size) { s' with heap := h' } | .error x => wpAny (model prg F.w) A (PySem.passOn "comprehension.variables-let-go" x (compEnv sc H2.objs.size env)) Q E { s' with heap := h' }) s₂ := by
    rintro s₂ rfl
    refine codeAny_compLoop_list (fun N s1 => ∃ (i : Nat) (us : Array Value) (hh : Heap) (tt : Nat) (m : PySem.Str → Option Value), s1 = ⟨hh, gs, dr, tt, os⟩ ∧ N + i = st.cps.size ∧ hh.IsStrIter hp.objs.size (sty st) st t i ∧ hh.IsList H1.objs.size us ∧
        Signs us.toList (st.cps.toList.take i) ∧ hh.Ns H2.objs.size m ∧ ∀ b o, hp.get? b = some o → hh.get? b = some o) ?_ st.cps.size
      ⟨0, #[], h₁, _, _, rfl, rfl, hit, hacc, .nil, hns₁, old⟩
    rintro N s1 ⟨i, us, hh, tt, m, rfl, hN, hit, hacc, sg, hns, old⟩
    have z := sg.length
    rw [List.length_take, Array.length_toList, Array.length_toList] at z
    cases N with
    | zero =>
      have hi : st.cps[i]? = Option.none := by rw [Array.getElem?_eq_none_iff]; omega
      refine send ar.none hit hi fun h2 x2 => ⟨m, ?_, fun h3 sb3 => ?_⟩
      · obtain ⟨o, es, ep, e, r⟩ := hns; exact ⟨o, es, ep, x2 _ _ (Ne.symm hIC) e, r⟩
      · refine h _ _ ?_ ⟨fun b o e => sb3.extBut b o (below b (Heap.lt_size e)).1 (x2 b o (below b (Heap.lt_size e)).2.1 (old b o e)), rfl, rfl⟩
        have tk : st.cps.toList.take i = st.cps.toList := List.take_of_length_le (by rw [Array.length_toList]; omega)
        rw [tk] at sg
        refine .list _ us.toList _ ?_ ?_ sg.vrs
        · obtain ⟨o, e, r⟩ := hacc; exact ⟨o, sb3.extBut _ _ hDC (x2 _ _ hDI e), r⟩
        · unfold chars
          rw [List.length_map, Array.length_toList]; exact hz
    | succ N =>
      have lt : i < st.cps.size := by omega
      refine snext hit (Array.getElem?_eq_getElem lt) fun h2 hit2 sb2 => ?_
      have ns2 := hns.sameBut sb2 (Ne.symm hIC)
      refine wpAny_assign_Name (wpAny_storeName_local (env := compEnv sc H2.objs.size env) (hl _ (.inr rfl)) ns2 (fun h3 ns3 sb3 => ?_) ?_)
      · refine wpAny_Name (wpAny_loadName_local (env := compEnv sc H2.objs.size env) qk (hl _ (.inr rfl)) ns3 (if_pos rfl) ?_) (by simpa using ndb)
        have acc3 : h3.IsList H1.objs.size us := by
          obtain ⟨o, e, r⟩ := hacc; exact ⟨o, (sb3.2 _ hDC).trans ((sb2.2 _ hDI).trans e), r⟩
        refine wpAny_list_append acc3 (fun h4 acc4 sb4 => ⟨N, Nat.lt_succ_self N, i + 1, us.push _, h4, _, _, rfl, by omega, ?_, acc4, ?_, ns3.sameBut sb4 (Ne.symm hDC), fun b o e => ?_⟩) (by unfold PySem.Str.length at hz; omega)
        · obtain ⟨o, e, r⟩ := hit2
          exact ⟨o, (sb4.2 _ (Ne.symm hDI)).trans ((sb3.2 _ hIC).trans e), r⟩
        · have e : st.cps.toList.take (i + 1) = st.cps.toList.take i ++ [st.cps[i]] := by
            rw [List.take_succ_eq_append_getElem (by rw [Array.length_toList]; exact lt)]
            rw [Array.getElem_toList]
          rw [e, Array.toList_push]
          exact sg.snoc
        · obtain ⟨n1, n2, n3⟩ := below b (Heap.lt_size e)
          exact (sb4.2 b n3).trans ((sb3.2 b n1).trans ((sb2.2 b n2).trans (old b o e)))
      · have e : (compEnv sc H2.objs.size env).scope.kind = .function := qk
        rw [e]; rfl
  refine codeAny_compStart_list (loop _ rfl) (siter2 hit (loop _ rfl))
end Nor
end

section
open PySem PySem.W PyProof.Rows
set_option Elab.async false
set_option maxRecDepth 100000
namespace Nor

/-- the small state of a big step: the heap's tree, its size, the next token -/
structure SS where
  T : BT
  n : Nat
  k : Nat

/-- a world's pieces that a run asks -/
structure Ev where
  e : (α : Type) → Ctx → Sem α → Pos → SS → Option (Except Value α × Pos × SS)
  c : Ctx → Pos → SS → Option (Result × SS)

noncomputable def evStep (den : Code → Sem Fin) (q : Code → Bool) (set : Setting) (ih : Ev) : Ev where
  e := fun α Γ t p S => match t with
    | .pure a => some (.ok a, p, S)
    | .raise x => some (.error x, p, S)
    | .rule _ k => ih.e α Γ (k ()) p S
    | .at p' k => ih.e α Γ (k ()) p' S
    | .load a _ k => match Nat.blt a S.n with
      | true => match S.T.get a with
        | some o => match alive o with
          | some o' => ih.e α Γ (k o') p S
          | none => none
        | none => none
      | false => none
    | .update a _ f k => match Nat.blt a S.n with
      | true => match S.T.get a with
        | some o => match alive o with
          | some _ => ih.e α Γ (k ()) p ⟨S.T.set a f, S.n, S.k⟩
          | none => none
        | none => none
      | false => none
    | .loadIfAlive a k => match Nat.blt a S.n with
      | true => match S.T.get a with
        | some o => ih.e α Γ (k (alive o)) p S
        | none => none
      | false => ih.e α Γ (k none) p S
    | .point _ k => ih.e α Γ (k ()) p S
    | .alloc o k => match ((S.T.ins S.n o).get S.n).isSome with
      | true => ih.e α Γ (k S.n) p ⟨S.T.ins S.n o, S.n + 1, S.k⟩
      | false => none
    | .fresh k => ih.e α Γ (k S.k) p ⟨S.T, S.n, S.k + 1⟩
    | .ask k => ih.e α Γ (k set) p S
    | .handled own k => ih.e α Γ (k (if own then Γ.own else Γ.handled)) p S
    | .stack k => ih.e α Γ (k ((Γ.code, p) :: Γ.below)) p S
    | .call c h _ _ k => match ih.c (Γ.enter c h p) p S with
      | some (r, S') => ih.e α Γ (k r) p S'
      | none => none
    | _ => none
  c := fun Γ p S => match ih.e Fin Γ (den Γ.code) p S with
    | some (.ok (.done f), _, S') => some (.ok f, S')
    | some (.ok (.again c'), p', S') => match q c' with
      | true => ih.c (Γ.goto c') p' S'
      | false => none
    | some (.error x, _, S') => some (.error x, S')
    | none => none

noncomputable def evN (den : Code → Sem Fin) (q : Code → Bool) (set : Setting) (n : Nat) : Ev :=
  Nat.rec (motive := fun _ => Ev) ⟨fun _ _ _ _ _ => none, fun _ _ _ => none⟩ (fun _ ih => evStep den q set ih) n

noncomputable def bootTree (l : List Obj) : BT := (l.foldl (fun (x : BT × Nat) o => (x.1.ins x.2 o, x.2 + 1)) (.nil, 0)).1
end Nor
end

section
open PySem PySem.W PyProof.Rows
set_option Elab.async false
set_option maxRecDepth 100000
namespace Nor

/-- what a big step's state tells of the real one -/
structure Rep (d : Drawn) (os : OsState) (S : SS) (s : Shared) : Prop where
  size : s.heap.objs.size = S.n
  at_ : ∀ a o, a < S.n → S.T.get a = some o → s.heap.get? a = alive o
  toks : s.toks = S.k
  gens : s.gens = #[]
  drawn : s.drawn = d
  os : s.os = os

theorem alive_some {o o' : Obj} (h : alive o = some o') : o' = o ∧ o.isFreed = false := by
  obtain ⟨c, d, dt, sl⟩ := o
  cases dt <;> first | (cases h; exact ⟨rfl, rfl⟩) | cases h
theorem alive_of {o : Obj} : alive o = if o.isFreed then none else some o := by
  obtain ⟨c, d, dt, sl⟩ := o
  cases dt <;> rfl
theorem get_of_objs {h : Heap} {a : Addr} {o : Obj} (e : h.objs[a]? = some o) : h.get? a = alive o := by
  rw [alive_of]
  cases q : o.isFreed with
  | false => exact Heap.get?_some_iff.mpr ⟨e, q⟩
  | true =>
    cases z : h.get? a with
    | none => rfl
    | some o' =>
      obtain ⟨z1, z2⟩ := Heap.get?_some_iff.mp z
      rw [e] at z1; cases z1; rw [q] at z2; cases z2

theorem Rep.upd {d : Drawn} {os : OsState} {S : SS} {s : Shared} (R : Rep d os S s) {a : Addr} {o o' : Obj} (f : Obj → Obj) (g : S.T.get a = some o) (hl : alive o = some o') (ha : a < S.n) :
    Rep d os ⟨S.T.set a f, S.n, S.k⟩ { s with heap := s.heap.update a f } := by
  have hs := Heap.SameBut.update s.heap a f
  refine ⟨hs.1.trans R.size, fun b ob hb e => ?_, R.toks, R.gens, R.drawn, R.os⟩
  dsimp only at e
  rw [BT.get_set] at e
  by_cases q : b = a
  · subst q
    rw [if_pos rfl, g] at e
    cases e
    have h1 := (R.at_ b o ha g).trans hl
    obtain ⟨z1, z2⟩ := Heap.get?_some_iff.mp h1
    obtain ⟨rfl, _⟩ := alive_some hl
    exact get_of_objs (by rw [Heap.objs_update_self, z1]; rfl)
  · rw [if_neg q] at e
    exact (hs.2 b q).trans (R.at_ b ob hb e)
theorem Rep.new {d : Drawn} {os : OsState} {S : SS} {s s' : Shared} (R : Rep d os S s) {o : Obj} (g : ((S.T.ins S.n o).get S.n).isSome = true) (k : Nat) (hs : s'.heap.objs.size = S.n + 1) (hb : ∀ b, b ≠ S.n → s'.heap.get? b = s.heap.get? b) (hn : s'.heap.get? S.n = alive o)
    (ht : s'.toks = k) (hg : s'.gens = #[]) (hd : s'.drawn = d) (ho : s'.os = os) : Rep d os ⟨S.T.ins S.n o, S.n + 1, k⟩ s' := by
  refine ⟨hs, fun b ob hlt e => ?_, ht, hg, hd, ho⟩
  dsimp only at e hlt
  rw [BT.get_ins _ _ _ g] at e
  by_cases q : b = S.n
  · subst q; rw [if_pos rfl] at e; cases e; exact hn
  · rw [if_neg q] at e
    exact (hb b q).trans (R.at_ b ob (by omega) e)

noncomputable def EvOk (M : Model) (d : Drawn) (os : OsState) (ev : Ev) : Prop :=
  (∀ (α : Type) (Γ : Ctx) (t : Sem α) (p : Pos) (S : SS) (s : Shared) (r : Except Value α) (p' : Pos) (S' : SS) (Q : α → Pos → Shared → Prop) (E : Value → Pos → Shared → Prop), Rep d os S s → ev.e α Γ t p S = some (r, p', S') →
    (∀ s', Rep d os S' s' → match r with | .ok a => Q a p' s' | .error x => E x p' s') → Sem.wp M Γ t Q E p s) ∧
  ∀ (Γ : Ctx) (p : Pos) (S : SS) (s : Shared) (r : Result) (S' : SS) (R : Result → Shared → Prop), Rep d os S s → ev.c Γ p S = some (r, S') → (∀ s', Rep d os S' s' → R r s') → wpCode M Γ R p s

theorem blt_spec {a n : Nat} (h : Nat.blt a n = true) : a < n := Nat.le_of_ble_eq_true h
theorem blt_spec' {a n : Nat} (h : Nat.blt a n = false) : ¬ a < n := fun z => by
  have : Nat.blt a n = true := Nat.ble_eq_true_of_le z
  rw [this] at h; cases h
theorem Rep.out {d : Drawn} {os : OsState} {S : SS} {s : Shared} (R : Rep d os S s) {a : Nat} (h : ¬ a < S.n) : s.heap.get? a = none := by
  cases z : s.heap.get? a with
  | none => rfl
  | some o => exact absurd (Heap.lt_size z) (by rw [R.size]; exact h)

theorem Rep.ld {d : Drawn} {os : OsState} {S : SS} {s : Shared} {β : Type} {a : Nat} {f : Obj → Option β} {r : β} (R : Rep d os S s)
    (h : (match Nat.blt a S.n with
      | true => (match S.T.get a with
        | some o => (match alive o with
          | some o' => f o'
          | none => none)
        | none => none)
      | false => none) = some r) : ∃ o o', S.T.get a = some o ∧ alive o = some o' ∧ a < S.n ∧ s.heap.get? a = some o' ∧ f o' = some r := by
  cases hb : Nat.blt a S.n with
  | false => rw [hb] at h; cases h
  | true =>
    rw [hb] at h
    cases hg : S.T.get a with
    | none => rw [hg] at h; cases h
    | some o =>
      rw [hg] at h
      dsimp only at h
      cases ha : alive o with
      | none => rw [ha] at h; cases h
      | some o' =>
        rw [ha] at h
        exact ⟨o, o', rfl, ha, blt_spec hb, (R.at_ _ _ (blt_spec hb) hg).trans ha, h⟩
theorem Rep.ldIf {d : Drawn} {os : OsState} {S : SS} {s : Shared} {β : Type} {a : Nat} {f : Option Obj → Option β} {r : β} (R : Rep d os S s)
    (h : (match Nat.blt a S.n with
      | true => (match S.T.get a with
        | some o => f (alive o)
        | none => none)
      | false => f none) = some r) : f (s.heap.get? a) = some r := by
  cases hb : Nat.blt a S.n with
  | false => rw [hb] at h; rw [R.out (blt_spec' hb)]; exact h
  | true =>
    rw [hb] at h
    cases hg : S.T.get a with
    | none => rw [hg] at h; cases h
    | some o => rw [hg] at h; rw [R.at_ _ _ (blt_spec hb) hg]; exact h
theorem Rep.al {d : Drawn} {os : OsState} {S : SS} {s : Shared} {β : Type} {o : Obj} {x : Option β} {r : β} (R : Rep d os S s)
    (h : (match ((S.T.ins S.n o).get S.n).isSome with
      | true => x
      | false => none) = some r) : Rep d os ⟨S.T.ins S.n o, S.n + 1, S.k⟩ { s with heap := s.heap.push o } ∧ x = some r := by
  cases hg : ((S.T.ins S.n o).get S.n).isSome with
  | false => rw [hg] at h; cases h
  | true =>
    rw [hg] at h
    refine ⟨R.new hg S.k ?_ (fun b hb => ?_) ?_ R.toks R.gens R.drawn R.os, h⟩
    · show (s.heap.push o).objs.size = _
      rw [Heap.size_push, R.size]
    · exact Heap.get?_push_ne _ _ _ (by rw [R.size]; exact hb)
    · refine get_of_objs ?_
      show (s.heap.push o).objs[S.n]? = some o
      rw [← R.size, Heap.objs_push]; simp
theorem Rep.fr {d : Drawn} {os : OsState} {S : SS} {s : Shared} (R : Rep d os S s) : Rep d os ⟨S.T, S.n, S.k + 1⟩ { s with toks := S.k + 1 } := ⟨R.size, R.at_, rfl, R.gens, R.drawn, R.os⟩

theorem evStep_ok {M : Model} {d : Drawn} {os : OsState} {q : Code → Bool} {ih : Ev} (hq : ∀ c, q c = true → c.quiet = true) (hi : EvOk M d os ih) : EvOk M d os (evStep M.den q ⟨M.prog, M.w.params⟩ ih) := by
  obtain ⟨ie, ic⟩ := hi
  refine ⟨fun α Γ t p S s r p' S' Q E R h hr => ?_, fun Γ p S s r S' P R h hr => ?_⟩
  · refine Classical.byContradiction fun no => ?_
    cases t with
    | pure a => cases h; exact no ((Sem.wp_pure ..).mpr (hr s R))
    | raise x => cases h; exact no ((Sem.wp_raise ..).mpr (hr s R))
    | rule _ k => exact no ((Sem.wp_rule ..).mpr (ie _ _ _ _ _ _ _ _ _ _ _ R h hr))
    | «at» _ k => exact no ((Sem.wp_at ..).mpr (ie _ _ _ _ _ _ _ _ _ _ _ R h hr))
    | load a part k =>
      obtain ⟨o, o', _, _, _, hs, h⟩ := R.ld (f := fun o' => ih.e α Γ (k o') p S) h
      exact no ((Sem.wp_load ..).mpr (⟨o', hs, ie _ _ _ _ _ _ _ _ _ _ _ R h hr⟩))
    | update a part f k =>
      obtain ⟨o, o', hg, ha, hb, hs, h⟩ := R.ld (f := fun _ => ih.e α Γ (k ()) p ⟨S.T.set a f, S.n, S.k⟩) h
      exact no ((Sem.wp_update ..).mpr (⟨by rw [hs]; rfl, ie _ _ _ _ _ _ _ _ _ _ _ (R.upd f hg ha hb) h hr⟩))
    | loadIfAlive a k => exact no ((Sem.wp_loadIfAlive ..).mpr (ie _ _ _ _ _ _ _ _ _ _ _ R (R.ldIf (f := fun o => ih.e α Γ (k o) p S) h) hr))
    | point _ k => exact no ((Sem.wp_point ..).mpr (ie _ _ _ _ _ _ _ _ _ _ _ R h hr))
    | alloc o k =>
      obtain ⟨R', h⟩ := R.al h
      refine no ?_
      rw [Sem.wp_alloc, R.size]
      exact ie _ _ _ _ _ _ _ _ _ _ _ R' h hr
    | fresh k =>
      refine no ?_
      rw [Sem.wp_fresh, R.toks]
      exact ie _ _ _ _ ⟨S.T, S.n, S.k + 1⟩ _ _ _ _ _ _ R.fr h hr
    | ask k => exact no ((Sem.wp_ask ..).mpr (ie _ _ _ _ _ _ _ _ _ _ _ R h hr))
    | handled own k => exact no ((Sem.wp_handled ..).mpr (ie _ _ _ _ _ _ _ _ _ _ _ R h hr))
    | stack k => exact no ((Sem.wp_stack ..).mpr (ie _ _ _ _ _ _ _ _ _ _ _ R h hr))
    | call c hh g l k =>
      refine no ?_
      rw [Sem.wp_call]
      replace h : (match ih.c (Γ.enter c hh p) p S with
        | some (r, S') => ih.e α Γ (k r) p S'
        | none => none) = some (r, p', S') := h
      cases hc : ih.c (Γ.enter c hh p) p S with
      | none => rw [hc] at h; cases h
      | some x =>
        obtain ⟨r1, S1⟩ := x
        rw [hc] at h
        exact ic _ _ _ _ _ _ _ R hc fun s1 R1 => ie _ _ _ _ _ _ _ _ _ _ _ R1 h hr
    | _ => cases h
  · refine Classical.byContradiction fun no => ?_
    replace h : (match ih.e Fin Γ (M.den Γ.code) p S with
      | some (.ok (.done f), _, S') => some (.ok f, S')
      | some (.ok (.again c'), p', S') => (match q c' with
        | true => ih.c (Γ.goto c') p' S'
        | false => none)
      | some (.error x, _, S') => some (.error x, S')
      | none => none) = some (r, S') := h
    cases he : ih.e Fin Γ (M.den Γ.code) p S with
    | none => rw [he] at h; cases h
    | some y =>
      obtain ⟨y, p', S1⟩ := y
      rw [he] at h
      cases y with
      | error x =>
        cases h
        exact no ((wpCode_iff_wp ..).mpr (ie _ _ _ _ _ _ _ _ _ _ _ R he hr))
      | ok y => cases y with
        | done f =>
          cases h
          exact no ((wpCode_iff_wp ..).mpr (ie _ _ _ _ _ _ _ _ _ _ _ R he hr))
        | again c' =>
          replace h : (match q c' with
            | true => ih.c (Γ.goto c') p' S1
            | false => none) = some (r, S') := h
          cases hc : q c' with
          | true =>
            rw [hc] at h
            exact no ((wpCode_iff_wp ..).mpr (ie _ _ _ _ _ _ _ _ _ _ _ R he fun s1 R1 => ⟨hq _ hc, ic _ _ _ _ _ _ _ R1 h hr⟩))
          | false => rw [hc] at h; cases h

theorem evN_ok {M : Model} {d : Drawn} {os : OsState} {q : Code → Bool} (hq : ∀ c, q c = true → c.quiet = true) : ∀ n, EvOk M d os (evN M.den q ⟨M.prog, M.w.params⟩ n)
  | 0 => ⟨fun _ _ _ _ _ _ _ _ _ _ _ _ h => (by cases h), fun _ _ _ _ _ _ _ _ h => (by cases h)⟩
  | n + 1 => evStep_ok hq (evN_ok hq n)

/-- up to a call of a chosen kind -/
noncomputable def evToStep {α : Type} (stop : Code → Bool) (set : Setting) (ev : Ev) (Γ : Ctx) (ih : Sem α → Pos → SS → Option (Code × Option Value × (Result → Sem α) × Pos × SS)) : Sem α → Pos → SS → Option (Code × Option Value × (Result → Sem α) × Pos × SS) := fun t p S => match t with
    | .rule _ k => ih (k ()) p S
    | .at p' k => ih (k ()) p' S
    | .load a _ k => match Nat.blt a S.n with
      | true => match S.T.get a with
        | some o => match alive o with
          | some o' => ih (k o') p S
          | none => none
        | none => none
      | false => none
    | .update a _ f k => match Nat.blt a S.n with
      | true => match S.T.get a with
        | some o => match alive o with
          | some _ => ih (k ()) p ⟨S.T.set a f, S.n, S.k⟩
          | none => none
        | none => none
      | false => none
    | .loadIfAlive a k => match Nat.blt a S.n with
      | true => match S.T.get a with
        | some o => ih (k (alive o)) p S
        | none => none
      | false => ih (k none) p S
    | .point _ k => ih (k ()) p S
    | .alloc o k => match ((S.T.ins S.n o).get S.n).isSome with
      | true => ih (k S.n) p ⟨S.T.ins S.n o, S.n + 1, S.k⟩
      | false => none
    | .fresh k => ih (k S.k) p ⟨S.T, S.n, S.k + 1⟩
    | .ask k => ih (k set) p S
    | .handled own k => ih (k (if own then Γ.own else Γ.handled)) p S
    | .stack k => ih (k ((Γ.code, p) :: Γ.below)) p S
    | .call c h _ _ k => match stop c with
      | true => some (c, h, k, p, S)
      | false => match ev.c (Γ.enter c h p) p S with
        | some (r, S') => ih (k r) p S'
        | none => none
    | _ => none
noncomputable def evToN {α : Type} (stop : Code → Bool) (set : Setting) (ev : Ev) (Γ : Ctx) (n : Nat) : Sem α → Pos → SS → Option (Code × Option Value × (Result → Sem α) × Pos × SS) :=
  Nat.rec (motive := fun _ => Sem α → Pos → SS → Option (Code × Option Value × (Result → Sem α) × Pos × SS)) (fun _ _ _ => none) (fun _ ih => evToStep stop set ev Γ ih) n

noncomputable def ToOk {α : Type} (M : Model) (d : Drawn) (os : OsState) (Γ : Ctx) (f : Sem α → Pos → SS → Option (Code × Option Value × (Result → Sem α) × Pos × SS)) : Prop :=
  ∀ (t : Sem α) (p : Pos) (S : SS) (s : Shared) (c : Code) (h : Option Value) (k : Result → Sem α) (p' : Pos) (S' : SS) (Q : α → Pos → Shared → Prop) (E : Value → Pos → Shared → Prop), Rep d os S s → f t p S = some (c, h, k, p', S') →
    (∀ s', Rep d os S' s' → wpCode M (Γ.enter c h p') (fun r s'' => Sem.wp M Γ (k r) Q E p' s'') p' s') → Sem.wp M Γ t Q E p s
theorem evToN_ok {α : Type} {M : Model} {d : Drawn} {os : OsState} {stop : Code → Bool} {ev : Ev} {Γ : Ctx} (hi : EvOk M d os ev) : ∀ n, ToOk (α := α) M d os Γ (evToN stop ⟨M.prog, M.w.params⟩ ev Γ n)
  | 0 => fun _ _ _ _ _ _ _ _ _ _ _ _ h => (by cases h)
  | n + 1 => by
    have ie := evToN_ok (α := α) (stop := stop) (Γ := Γ) hi n
    intro t p S s c hd kk p' S' Q E R h hr
    refine Classical.byContradiction fun no => ?_
    cases t with
    | rule _ k => exact no ((Sem.wp_rule ..).mpr (ie _ _ _ _ _ _ _ _ _ _ _ R h hr))
    | «at» _ k => exact no ((Sem.wp_at ..).mpr (ie _ _ _ _ _ _ _ _ _ _ _ R h hr))
    | load a part k =>
      obtain ⟨o, o', _, _, _, hs, h⟩ := R.ld (f := fun o' => evToN stop ⟨M.prog, M.w.params⟩ ev Γ n (k o') p S) h
      exact no ((Sem.wp_load ..).mpr (⟨o', hs, ie _ _ _ _ _ _ _ _ _ _ _ R h hr⟩))
    | update a part f k =>
      obtain ⟨o, o', hg, ha, hb, hs, h⟩ := R.ld (f := fun _ => evToN stop ⟨M.prog, M.w.params⟩ ev Γ n (k ()) p ⟨S.T.set a f, S.n, S.k⟩) h
      exact no ((Sem.wp_update ..).mpr (⟨by rw [hs]; rfl, ie _ _ _ _ _ _ _ _ _ _ _ (R.upd f hg ha hb) h hr⟩))
    | loadIfAlive a k => exact no ((Sem.wp_loadIfAlive ..).mpr (ie _ _ _ _ _ _ _ _ _ _ _ R (R.ldIf (f := fun o => evToN stop ⟨M.prog, M.w.params⟩ ev Γ n (k o) p S) h) hr))
    | point _ k => exact no ((Sem.wp_point ..).mpr (ie _ _ _ _ _ _ _ _ _ _ _ R h hr))
    | alloc o k =>
      obtain ⟨R', h⟩ := R.al h
      refine no ?_
      rw [Sem.wp_alloc, R.size]
      exact ie _ _ _ _ _ _ _ _ _ _ _ R' h hr
    | fresh k =>
      refine no ?_
      rw [Sem.wp_fresh, R.toks]
      exact ie _ _ ⟨S.T, S.n, S.k + 1⟩ _ _ _ _ _ _ _ _ R.fr h hr
    | ask k => exact no ((Sem.wp_ask ..).mpr (ie _ _ _ _ _ _ _ _ _ _ _ R h hr))
    | handled own k => exact no ((Sem.wp_handled ..).mpr (ie _ _ _ _ _ _ _ _ _ _ _ R h hr))
    | stack k => exact no ((Sem.wp_stack ..).mpr (ie _ _ _ _ _ _ _ _ _ _ _ R h hr))
    | call c1 h1 g l k =>
      refine no ?_
      rw [Sem.wp_call]
      replace h : (match stop c1 with
        | true => some (c1, h1, k, p, S)
        | false => (match ev.c (Γ.enter c1 h1 p) p S with
          | some (r, S') => evToN stop ⟨M.prog, M.w.params⟩ ev Γ n (k r) p S'
          | none => none)) = some (c, hd, kk, p', S') := h
      cases hs : stop c1 with
      | true =>
        rw [hs] at h
        cases h
        exact hr s R
      | false =>
        rw [hs] at h
        dsimp only at h
        cases hc : ev.c (Γ.enter c1 h1 p) p S with
        | none => rw [hc] at h; cases h
        | some x =>
          obtain ⟨r1, S1⟩ := x
          rw [hc] at h
          exact hi.2 _ _ _ _ _ _ _ R hc fun s1 R1 => ie _ _ _ _ _ _ _ _ _ _ _ R1 h hr
    | _ => cases h

/-- a step ends with a value only where the thread is through -/
noncomputable def Gd (s : Shared) (t : Thread) (st : PySem.Step) : Prop := ∀ v s', st = .halt (.done (.ret v)) s' → through t = true ∧ s = s'
theorem Gd.go {s : Shared} {t : Thread} {a : Shared} {b : Thread} : Gd s t (.go a b) := fun _ _ h => nomatch h
theorem Gd.unc {s : Shared} {t : Thread} {a : Shared} {e : Value} : Gd s t (.halt (.uncaught e) a) := fun _ _ h => nomatch h
theorem Gd.ended {s : Shared} {t : Thread} {a : Shared} {e : Ending} : Gd s t (.halt (.ended e) a) := fun _ _ h => nomatch h
theorem Gd.uns {s : Shared} {t : Thread} {a : Shared} {m : String} : Gd s t (.halt (.unsupported m) a) := fun _ _ h => nomatch h
theorem Gd.stk {s : Shared} {t : Thread} {a : Shared} {m : String} : Gd s t (.halt (.stuck m) a) := fun _ _ h => nomatch h
theorem Gd.ite {s : Shared} {t : Thread} {c : Prop} [Decidable c] {a b : PySem.Step} (h1 : Gd s t a) (h2 : Gd s t b) : Gd s t (if c then a else b) := by
  by_cases h : c
  · rw [if_pos h]; exact h1
  · rw [if_neg h]; exact h2
theorem gd_step (den : Code → Sem Fin) (prog : Program) (w : World) (heap : Heap) (gens : Array GenState) (drawn : Drawn) (toks : Nat) (os : OsState) (cur : Sem Fin) (code : Code) (pos : Pos) (stack : List Frame) :
    Gd ⟨heap, gens, drawn, toks, os⟩ ⟨cur, code, pos, stack⟩ (step den prog w ⟨heap, gens, drawn, toks, os⟩ ⟨cur, code, pos, stack⟩) := by
  cases cur with
  | pure f => cases f with
    | again c => exact Gd.go
    | done f => cases stack with
      | nil => exact Gd.ite Gd.uns fun v s' h => by cases h; exact ⟨rfl, rfl⟩
      | cons fr rest => cases fr <;> exact Gd.go
  | raise e => cases stack with
    | nil => exact Gd.ite Gd.uns Gd.unc
    | cons fr rest => cases fr <;> exact Gd.go
  | unsupported m => exact Gd.uns
  | finish e => exact Gd.ite Gd.uns Gd.ended
  | load a p k =>
    unfold step
    dsimp only
    cases heap.get? a with
    | none => exact Gd.stk
    | some o => exact Gd.go
  | update a p f k => exact Gd.ite Gd.go Gd.stk
  | register _ _ => exact Gd.uns
  | choose src n k => exact Gd.ite Gd.stk Gd.go
  | genState g k =>
    unfold step
    dsimp only
    cases gens[g]? with
    | none => exact Gd.stk
    | some o => exact Gd.go
  | resume g r l k =>
    unfold step
    dsimp only
    cases gens[g]? with
    | none => exact Gd.stk
    | some o => cases o with
      | fresh c => cases r with
        | send v => cases v <;> exact Gd.go
        | throw e => exact Gd.go
      | _ => exact Gd.go
  | yield v g0 l kk =>
    unfold step
    dsimp only
    cases splitAtGen stack with
    | none => exact Gd.stk
    | some x => obtain ⟨fs, ⟨g, k, c, p⟩, r⟩ := x; exact Gd.go
  | fork _ _ => exact Gd.uns
  | await => exact Gd.uns
  | _ => exact Gd.go

/-- a run's end, as the top's rule asks for it -/
theorem through_of {prog : Program} {w : World} {t : Sem Fin} {s : Shared} {P : Shared → Prop} (hz : s.asleep)
    (h : Sem.wp (model prog w) ⟨.builtin "claim.caller" {}, none, none, [], none⟩ t (fun fin _ s' => (∃ v, fin = .done (.ret v)) ∧ P s' ∧ s'.gens = #[]) (fun _ _ _ => False) default s) :
    ∃ s', P s' ∧ s'.gens = #[] ∧ (∃ n t', schedN (denote table) prog w n (.single s ⟨t, .builtin "claim.caller" {}, default, []⟩) = .running (.single s' t') ∧ through t' = true) ∧ s'.heap.life = s.heap.life := by
  have h' : Sem.wp (model prog w) ⟨.builtin "claim.caller" {}, none, none, [], none⟩ t (Sem.finPost (model prog w) ⟨.builtin "claim.caller" {}, none, none, [], none⟩ fun r s' => ((∃ v, r = .ok (.ret v)) ∧ P s' ∧ s'.gens = #[]) ∧ leftWithCleanup s'.gens = false)
      (fun e _ s' => ((∃ v, (Except.error e : Result) = .ok (.ret v)) ∧ P s' ∧ s'.gens = #[]) ∧ leftWithCleanup s'.gens = false) default s := by
    refine Sem.wp_mono _ _ _ (fun fin p' s' q => ?_) (fun _ _ _ q => q.elim) _ _ h
    obtain ⟨⟨v, rfl⟩, a, b⟩ := q
    exact ⟨⟨⟨v, rfl⟩, a, b⟩, by rw [b]; simp [leftWithCleanup]⟩
  obtain ⟨n, r, s₁, hn, ⟨⟨v, rfl⟩, hP, hg⟩⟩ := (wp_iff_halts (M := model prog w) (R := fun r s' => (∃ v, r = .ok (.ret v)) ∧ P s' ∧ s'.gens = #[]) ..).mp h'
  obtain ⟨s₂, hr, hf, hc⟩ := runNI_real _ _ _ hn (outcomeOf_ends _)
  obtain rfl : s₂ = s₁ := Shared.eq_of_forget_eq hf hg
  have key : ∀ (n : Nat) (s : Shared) (t : Thread), s.asleep → PySem.runN (denote table) prog w n s t = .halted (outcomeOf (.ok (.ret v))) s₂ →
      (∀ k s₁ t₁, PySem.runN (denote table) prog w k s t = .running s₁ t₁ → t₁.calm = true) → (∃ n t', schedN (denote table) prog w n (.single s t) = .running (.single s₂ t') ∧ through t' = true) ∧ s₂.heap.life = s.heap.life := by
    intro n
    induction n with
    | zero => intro s t _ h; cases h
    | succ n ih =>
      intro s t hz h hc
      have c0 := hc 0 s t rfl
      simp only [PySem.runN] at h
      cases hs : step (denote table) prog w s t with
      | go s' t' =>
        rw [hs] at h
        have hl := step_life (denote table) prog w s s' t t' hs
        obtain ⟨⟨m, t₁, hm, ht⟩, l⟩ := ih s' t' (Shared.asleep_of_life hl hz) h fun k s₁ t₁ q => hc (k + 1) s₁ t₁ (by simp only [PySem.runN, hs]; exact q)
        have e : sstep (denote table) prog w (.single s t) = .go (.single s' t') := by
          rcases sstep_single (denote table) prog w s t c0 hz with e | e
          · rw [e, hs]; rfl
          · rw [hs] at e; cases e
        exact ⟨⟨m + 1, t₁, by simp only [schedN, e]; exact hm, ht⟩, l.trans hl⟩
      | halt o s' =>
        rw [hs] at h
        injection h with h1 h2
        subst h2
        have : through t = true ∧ s = s' := by
          rw [h1] at hs
          exact gd_step (denote table) prog w s.heap s.gens s.drawn s.toks s.os t.cur t.code t.pos t.stack v s' hs
        exact ⟨⟨0, t, by rw [this.2]; rfl, this.1⟩, by rw [this.2]⟩
  obtain ⟨a, b⟩ := key n s _ hz hr hc
  exact ⟨s₂, hP, hg, a, b⟩
end Nor
end

section
open PySem PySem.W PyProof.Rows PySem.Calls
set_option Elab.async false
set_option maxRecDepth 100000
namespace Nor

noncomputable def strConst : Expr → Option PySem.Str
  | .Constant (.str x) _ _ => some x
  | _ => none
noncomputable def strConsts : List Expr → Option (List PySem.Str)
  | [] => some []
  | e :: r => match strConst e, strConsts r with
    | some x, some l => some (x :: l)
    | _, _ => none

section
variable {prog : Program} {w : World} {A : Around} {E : Value → Shared → Prop} {env : Env} {s : Shared}

/-- a set display's object on its way: all else stands -/
structure SetAt (prog : Program) (w : World) (s₀ s : Shared) (S : PySem.Str → Bool) (n k : Nat) : Prop where
  size : s.heap.objs.size = s₀.heap.objs.size + 1
  same : ∀ b, b ≠ s₀.heap.objs.size → s.heap.get? b = s₀.heap.get? b
  set : s.heap.SetOf (strKind prog w) s₀.heap.objs.size S n
  gens : s.gens = s₀.gens
  drawn : s.drawn = s₀.drawn
  os : s.os = s₀.os
  toks : s.toks = s₀.toks + k

theorem SetAt.step {s₀ s s' : Shared} {S S' : PySem.Str → Bool} {n n' k k' : Nat} (x : SetAt prog w s₀ s S n k) (sb : Heap.SameBut s₀.heap.objs.size s.heap s'.heap) (hS : s'.heap.SetOf (strKind prog w) s₀.heap.objs.size S' n') (hg : s'.gens = s.gens) (hd : s'.drawn = s.drawn) (ho : s'.os = s.os) (ht : s'.toks = s₀.toks + k') :
    SetAt prog w s₀ s' S' n' k' :=
  ⟨sb.1.trans x.size, fun b hb => (sb.2 b hb).trans (x.same b hb), hS, hg.trans x.gens, hd.trans x.drawn, ho.trans x.os, ht⟩

theorem disp_fill {s₀ : Shared} {Q : Value → Shared → Prop} : ∀ (cs done : List PySem.Str) (vs : List Value) (s : Shared) (k : Nat), (cs.map fun c => c) = cs → List.length vs = cs.length → (∀ i (h : i < vs.length), ∃ t, vs[i]? = (cs[i]?).map fun c => Value.str c t) →
    SetAt prog w s₀ s (fun x => done.contains x) done.length k → done.length + cs.length < 1000 → (done ++ cs).Nodup →
    (∀ s', SetAt prog w s₀ s' (fun x => (done ++ cs).contains x) (done ++ cs).length (k + cs.length) → Q (.ref s₀.heap.objs.size) s') → KdsFill (model prog w) A E true s₀.heap.objs.size Q vs s
  | [], done, [], s, k, _, _, _, x, hn, nd, h => by
    refine kds_fill_unled rfl ?_
    obtain ⟨o, es, ep, t, ho, hex, hd, hel, hmem, hb, hf, hz⟩ := x.set
    unfold setUnled
    have hf' : ({ t with led := false } : SetTable).fits es.size = true := by cases t; exact hf
    refine wpAny_bind (wpAny_setState_of ho hd hf ?_)
    dsimp only
    refine wpAny_storeSet_of ho hd ?_ (fits_of_scanBound hb)
    obtain ⟨_, hS⟩ := SetOf_store (knd := strKind prog w) ho hex hd hel hmem hb hf'
    rw [hz] at hS
    have sb := Heap.SameBut.update s.heap s₀.heap.objs.size (Obj.putSet es { t with led := false })
    refine h _ ?_
    rw [List.append_nil]
    exact x.step sb hS rfl rfl rfl x.toks
  | [], _, _ :: _, _, _, _, hl, _, _, _, _, _ => by cases hl
  | _ :: _, _, [], _, _, _, hl, _, _, _, _, _ => by cases hl
  | c :: cs, done, v :: vs, s, k, _, hl, hv, x, hn, nd, h => by
    obtain ⟨t, e⟩ := hv 0 (by simp)
    obtain rfl : v = .str c t := by simpa using e
    refine kds_fill_cons ?_
    have cn : done.contains c = false := by
      have := (List.nodup_append.mp nd).2.2
      cases q : done.contains c with
      | false => rfl
      | true => exact absurd rfl (this c (List.contains_iff_mem.mp q) c (.head _))
    unfold setAdd
    refine wpAny_holding (wpAny_bind ((strKind prog w).pyHash (strKind_is prog w c t) ?_))
    refine wpAny_setAddHashed_of (s := { s with toks := s.toks + 1 }) (strKind_is prog w c t) rfl x.set (by rw [List.length_cons] at hn; unfold scanBound; omega) fun h' sb hS => ?_
    rw [cn] at hS
    simp only [Bool.false_eq_true, if_false] at hS
    have ex : (fun k' => done.contains k' || decide (k' = c)) = fun x => (done ++ [c]).contains x := by
      funext y
      rw [List.contains_append]
      congr 1
      simp
    rw [ex] at hS
    refine disp_fill cs (done ++ [c]) vs _ (k + 1) (by simp) (by simpa using hl) (fun i hi => ?_) (x.step sb (by rw [List.length_append]; exact hS) rfl rfl rfl ?_) (by rw [List.length_append, List.length_cons, List.length_nil]; rw [List.length_cons] at hn; omega) (by rw [List.append_assoc]; exact nd) fun s' x' => h s' ?_
    · obtain ⟨t, e⟩ := hv (i + 1) (by simpa using hi)
      exact ⟨t, by simpa using e⟩
    · show s.toks + 1 = _
      rw [x.toks]; omega
    · rw [List.append_assoc] at x'
      rw [List.length_cons]
      have : k + (cs.length + 1) = k + 1 + cs.length := by omega
      rw [this]
      exact x'

theorem disp_all {Q : List Value → Shared → Prop} : ∀ (es : List Expr) (cs : List PySem.Str) (s : Shared), strConsts es = some cs →
    (∀ vs, vs.length = cs.length → (∀ i (h : i < vs.length), ∃ t, vs[i]? = (cs[i]?).map fun c => Value.str c t) → Q vs { s with toks := s.toks + cs.length }) → KdsAll (model prog w) A E env es Q s
  | [], cs, s, hc, h => by
    cases hc
    exact h [] rfl (fun i hi => by cases hi)
  | e :: es, cs, s, hc, h => by
    unfold strConsts at hc
    split at hc
    · rename_i x l hx hl
      cases hc
      unfold strConst at hx
      split at hx
      · cases hx
        refine wpAny_Constant_str ?_
        refine disp_all es l _ hl fun vs hv1 hv2 => ?_
        have := h (.str x s.toks :: vs) (by simp [hv1]) fun i hi => ?_
        · rw [List.length_cons] at this
          have e : s.toks + (l.length + 1) = s.toks + 1 + l.length := by omega
          rw [e] at this
          exact this
        · cases i with
          | zero => exact ⟨s.toks, rfl⟩
          | succ i => obtain ⟨t, e⟩ := hv2 i (by simpa using hi); exact ⟨t, by simpa using e⟩
      · cases hx
    · cases hc

theorem disp_ok {K : Frag} {elts : List Expr} {cs : List PySem.Str} {k : Nat} {pos : Pos} {Q : Value → Shared → Prop} (X : K.In s.heap) (hc : kdsCode K env.code = true) (hroad : displayRoad k elts = .unsure) (hs : strConsts elts = some cs) (hp : elts.all kdsPlain = true) (hlen : elts.length ≤ 30) (hcl : cs.length ≤ 30) (nd : cs.Nodup)
    (h : ∀ s', SetAt prog w s s' (fun x => cs.contains x) cs.length (cs.length + cs.length) → Q (.ref s.heap.objs.size) s') : wpAny (model prog w) A (eval (.Set elts k pos) env) Q E s := by
  rw [arm_eval_Set]
  refine wpAny_bind (wpAny_standAt ?_)
  refine wpAny_bind (kds_main X hc fun b => ?_)
  rw [kds_star elts hp, List.map_map]
  refine kds_core (ts := (evalEach elts env).map fun t => do let v ← t; standAt pos; pure v) (by rw [hroad]; rfl) ?_ ?_ ?_ fun led => ?_
  · refine List.findIdx?_eq_none_iff.mpr fun x hx => ?_
    obtain ⟨t, _, rfl⟩ := List.mem_map.mp hx
    rfl
  · rw [List.length_map, kds_len]; exact hlen
  · rw [List.map_map]; try rfl
  · refine kds_all pos elts _ _ (disp_all elts cs _ hs fun vs h1 h2 => ?_)
    rw [hroad]
    refine disp_fill (s₀ := s) cs [] vs _ cs.length (by simp) h1 h2 ⟨?_, fun b hb => Heap.get?_push_ne _ _ _ hb, ?_, rfl, rfl, rfl, rfl⟩ (by simp; omega) (by simpa using nd) fun s' x => ?_
    · exact Heap.size_push _ _
    · exact (setObjOf_fresh led).setOf (Heap.get?_push_size _ rfl) (by decide)
    · exact h s' x

theorem SetAt.obj {s₀ s : Shared} {S : PySem.Str → Bool} {n k : Nat} (x : SetAt prog w s₀ s S n k) : ∃ es ep t, s.heap.get? s₀.heap.objs.size = some { cls := .type "set", dict := none, data := .set es ep t, slots := #[] } ∧
    Obj.SetObjOf (strKind prog w) { cls := .type "set", dict := none, data := .set es ep t, slots := #[] } S n := by
  obtain ⟨o, ho, hso⟩ := x.set.objOf
  obtain ⟨⟨e1, e2, e3⟩, es, ep, t, hd, r⟩ := id hso
  obtain ⟨c, dd, dt, sl⟩ := o
  dsimp only at e1 e2 e3 hd
  subst e1 e2 e3 hd
  exact ⟨es, ep, t, ho, hso⟩
end
end Nor
end

section
open PySem PySem.W PyProof.Rows PySem.Calls
set_option Elab.async false
set_option maxRecDepth 100000
namespace Nor

noncomputable abbrev prgH : Program := PySem.Challenge.pw_is0011_01
noncomputable abbrev den1 : Code → Sem Fin := Fast.tw11892475500146522536 Fast.tw14364793385576792824
noncomputable def Γ0 : Ctx := ⟨.builtin "claim.caller" {}, none, none, [], none⟩
noncomputable def S0 (P : Params) : SS := ⟨bootTree (boot_heap P).objs.toList, (boot_heap P).objs.toList.length, boot_toks⟩
noncomputable def pre : Sem (Value × Addr) := do
    let code ← moduleCode prgH.main
    let frame ← newBodyFrame code mainNs mainNs
    return (code, frame)
noncomputable def bodyM : List Stmt := behindTheImports prgH
noncomputable def envM (c : Value) (f : Addr) : Env := { scope := prgH.main.scope, locals := mainNs, globals := mainNs, cells := [], code := c, frame := some f }
noncomputable def isBody : Code → Bool
  | .body _ _ => true
  | _ => false
noncomputable def evP (P : Params) : Ev := evN den1 Code.quiet ⟨prgH, P⟩ 100000

noncomputable def setO (es : Array (Int × Value)) (ep : Nat) (t : SetTable) : Obj := { cls := .type "set", dict := none, data := .set es ep t, slots := #[] }
noncomputable def codeFrag (S : SS) (v : Value) : Frag := match v with
  | .ref c => (match Nat.blt c S.n, S.T.get c with
    | true, some o => (match alive o with
      | some o' => [(c, o')]
      | none => [])
    | _, _ => [])
  | _ => []
noncomputable def nodupB : List PySem.Str → Bool
  | [] => true
  | x :: r => !r.contains x && nodupB r
noncomputable def csV : List PySem.Str := ["a", "e", "i", "o", "u", "y", "å", "æ", "ê", "ò", "ó", "ô", "ø"]
noncomputable def csS : List PySem.Str := ["b", "c", "d", "f", "g", "h", "j", "l", "m", "n", "o", "p", "t", "v", "y", "z"]

/-- a display's statement -/
noncomputable def dispAt (ev : Ev) (Γ : Ctx) (env : Env) (o : Obj) (cs : List PySem.Str) (st : Stmt) (S : SS) : Option (Pos × SS) := match st with
  | .Assign [.Name x p'] (.Set elts k _) _ =>
    bif decide (displayRoad k elts = .unsure) && decide (strConsts elts = some cs) && elts.all kdsPlain && Nat.ble elts.length 30 && Nat.ble cs.length 30 && nodupB cs && kdsCode (codeFrag S env.code) env.code && ((S.T.ins S.n o).get S.n).isSome
    then (ev.e Flow Γ (bindName env x (.ref S.n) >>= fun _ => pure .next) p' ⟨S.T.ins S.n o, S.n + 1, S.k + (cs.length + cs.length)⟩).bind fun r => match r with
      | (.ok .next, p, S') => some (p, S')
      | _ => none
    else none
  | _ => none

noncomputable def gam (body : List Stmt) (mk : Value → Addr → Env) (c : Value) (f : Addr) (p : Pos) : Ctx := Γ0.enter (.body body (mk c f)) none p
noncomputable def inCls (ev : Ev) (o1 o2 : Obj) (Γ : Ctx) (c : Code) (p : Pos) (S : SS) : Option SS := match c with
  | .body (st1 :: st2 :: rest) env => (ev.e Unit Γ (blockStart (st1 :: st2 :: rest) env) p S).bind fun r => match r with
    | (.ok _, _, S1) => (dispAt ev Γ env o1 csV st1 S1).bind fun r => (dispAt ev Γ env o2 csS st2 r.2).bind fun r => (ev.e Flow Γ (execs rest env) r.1 r.2).bind fun r => match r with
      | (.ok .next, _, S') => some S'
      | _ => none
    | _ => none
  | _ => none
noncomputable def inTop (ev : Ev) (set : Setting) (body : List Stmt) (mk : Value → Addr → Env) (o1 o2 : Obj) (c : Value) (f : Addr) (p : Pos) (S : SS) : Option SS :=
  (ev.e Unit (gam body mk c f p) (blockStart body (mk c f)) p S).bind fun r => match r with
    | (.ok _, p1, S1) => (ev.e Flow (gam body mk c f p) (execs (body.take 6) (mk c f)) p1 S1).bind fun r => match r, body.drop 6 with
      | (.ok .next, p2, S2), cls :: B => (evToN isBody set ev (gam body mk c f p) 100000 (exec cls (mk c f)) p2 S2).bind fun (co, h, k, p3, S3) =>
        (inCls ev o1 o2 ((gam body mk c f p).enter co h p3) co p3 S3).bind fun S4 => (ev.e Flow (gam body mk c f p) (k (.ok .next)) p3 S4).bind fun r => match r with
          | (.ok .next, p5, S5) => (ev.e Flow (gam body mk c f p) (execs B (mk c f)) p5 S5).bind fun r => match r with
            | (.ok .next, _, S6) => some S6
            | _ => none
          | _ => none
      | _, _ => none
    | _ => none
noncomputable def FullE (ev : Ev) (set : Setting) (pre : Sem (Value × Addr)) (body : List Stmt) (mk : Value → Addr → Env) (S0 : SS) (o1 o2 : Obj) : Option SS :=
  (ev.e (Value × Addr) Γ0 pre default S0).bind fun r => match r with
    | (.ok (c, f), p, S) => inTop ev set body mk o1 o2 c f p S
    | _ => none
noncomputable def Full (P : Params) (o1 o2 : Obj) : Option SS := FullE (evP P) ⟨prgH, P⟩ pre bodyM envM (S0 P) o1 o2

end Nor
end

section
open PySem PySem.W PyProof.Rows PySem.Calls
set_option Elab.async false
set_option maxRecDepth 100000
namespace Nor

theorem den1_eq : den1 = denote treeTable := by
  rw [PySem.W.Fast.te11892475500146522536, PySem.W.Fast.te14364793385576792824]
theorem exists_in (Γ : Ctx) : ∃ A : Around, Γ.In A :=
  ⟨{ handled := Γ.handled, depth := frameCount Γ.below + Γ.code.weight, frames := none, guards := none, units := Γ.units }, rfl, Nat.le_refl _, (fun _ h => by cases h), (fun _ h => by cases h), Nat.le_refl _⟩

section
variable {w : World} {d : Drawn} {os : OsState} {ev : Ev} {body : List Stmt} {mk : Value → Addr → Env}
noncomputable abbrev MM (w : World) : Model := model prgH w
theorem wp_execs_append {M : Model} {Γ : Ctx} {env : Env} {E : Value → Pos → Shared → Prop} : ∀ (a b : List Stmt) (Q : Flow → Pos → Shared → Prop) (p : Pos) (s : Shared),
    Sem.wp M Γ (execs a env) (fun f p' s' => match f with | .next => Sem.wp M Γ (execs b env) Q E p' s' | f => Q f p' s') E p s → Sem.wp M Γ (execs (a ++ b) env) Q E p s
  | [], b, Q, p, s, h => h
  | st :: a, b, Q, p, s, h => by
    rw [List.cons_append]
    rw [execs_cons, Sem.wp_bind'] at h ⊢
    refine Sem.wp_mono M Γ _ (fun f p' s' h' => ?_) (fun _ _ _ h' => h') _ _ h
    cases f <;> first | exact wp_execs_append a b Q _ _ h' | exact h'

/-- a display's statement -/
theorem dispAt_ok (eo : EvOk (MM w) d os ev) {Γ : Ctx} {env : Env} {cs : List PySem.Str} {st : Stmt} {S : SS} {s : Shared} {p : Pos} {Q : Flow → Pos → Shared → Prop} {E : Value → Pos → Shared → Prop} (R : Rep d os S s)
    (h : ∀ es ep t, ∃ r, dispAt ev Γ env (setO es ep t) cs st S = some r ∧ (Obj.SetObjOf (strKind prgH w) (setO es ep t) (fun x => cs.contains x) cs.length → ∀ s', Rep d os r.2 s' → Q .next r.1 s')) :
    Sem.wp (MM w) Γ (exec st env) Q E p s := by
  obtain ⟨r0, h0, _⟩ := h #[] 0 (.fresh 0 0 true)
  unfold dispAt at h0
  split at h0
  case h_2 => cases h0
  rename_i x p' elts k pos ap
  have h1 := h
  clear h
  rw [exec_Assign_Name env x p' _ ap rfl]
  rw [Sem.wp_bind', Sem.wp_cmd_standAt, Sem.wp_bind']
  have c0 : (decide (displayRoad k elts = .unsure) && decide (strConsts elts = some cs) && elts.all kdsPlain && Nat.ble elts.length 30 && Nat.ble cs.length 30 && nodupB cs && kdsCode (codeFrag S env.code) env.code && ((S.T.ins S.n (setO #[] 0 (.fresh 0 0 true))).get S.n).isSome) = true := by
    cases q : (decide (displayRoad k elts = .unsure) && decide (strConsts elts = some cs) && elts.all kdsPlain && Nat.ble elts.length 30 && Nat.ble cs.length 30 && nodupB cs && kdsCode (codeFrag S env.code) env.code && ((S.T.ins S.n (setO #[] 0 (.fresh 0 0 true))).get S.n).isSome) with
    | true => rfl
    | false => rw [q] at h0; cases h0
  simp only [Bool.and_eq_true, decide_eq_true_eq] at c0
  obtain ⟨⟨⟨⟨⟨⟨⟨c1, c2⟩, c3⟩, c4⟩, c5⟩, c6⟩, c7⟩, _⟩ := c0
  have nd : ∀ l : List PySem.Str, nodupB l = true → l.Nodup := by
    intro l
    induction l with
    | nil => intro _; exact List.nodup_nil
    | cons a l ih =>
      intro q
      unfold nodupB at q
      simp only [Bool.and_eq_true, Bool.not_eq_true'] at q
      exact List.nodup_cons.mpr ⟨(fun m => by rw [List.contains_iff_mem.mpr m] at q; cases q.1), ih q.2⟩
  have X : (codeFrag S env.code).In s.heap := by
    intro a o e
    unfold codeFrag at e
    generalize env.code = v at e
    cases v with
    | ref c =>
      dsimp only at e
      split at e
      · rename_i o' hb hg
        split at e
        · rename_i o2 ha
          rw [List.lookup_cons] at e
          cases q : a == c with
          | false => rw [q] at e; cases e
          | true =>
            rw [q] at e
            cases e
            rw [beq_iff_eq.mp q]
            exact (R.at_ _ _ (blt_spec hb) hg).trans ha
        · cases e
      · cases e
    | _ => cases e
  obtain ⟨A, hA⟩ := exists_in Γ
  refine Sem.wp_mono _ _ _ (fun v p1 s1 hv => ?_) (fun _ _ _ q => q) _ _ (disp_ok (prog := prgH) (w := w) (A := A) (E := fun x s' => False) (Q := fun v s' => v = .ref s.heap.objs.size ∧ SetAt prgH w s s' (fun x => cs.contains x) cs.length (cs.length + cs.length)) X c7 c1 c2 c3 (Nat.le_of_ble_eq_true c4) (Nat.le_of_ble_eq_true c5) (nd _ c6) (fun s' z => ⟨rfl, z⟩) Γ ap hA |> fun z => Sem.wp_mono _ _ _ (fun _ _ _ q => q) (fun _ _ _ q => q.elim) _ _ z)
  obtain ⟨rfl, SA⟩ := hv
  obtain ⟨es, ep, t, ho, hso⟩ := SA.obj
  obtain ⟨r, hr, hQ⟩ := h1 es ep t
  unfold dispAt at hr
  dsimp only at hr
  obtain ⟨c8, hr⟩ : _ ∧ _ := by
    cases q : (decide (displayRoad k elts = .unsure) && decide (strConsts elts = some cs) && elts.all kdsPlain && Nat.ble elts.length 30 && Nat.ble cs.length 30 && nodupB cs && kdsCode (codeFrag S env.code) env.code && ((S.T.ins S.n (setO es ep t)).get S.n).isSome) with
    | true => rw [q] at hr; exact ⟨(Bool.and_eq_true_iff.mp q).2, hr⟩
    | false => rw [q] at hr; cases hr
  have R' : Rep d os ⟨S.T.ins S.n (setO es ep t), S.n + 1, S.k + (cs.length + cs.length)⟩ s1 := by
    refine R.new c8 _ (SA.size.trans (by rw [R.size])) (fun b hb => SA.same b (by rw [R.size]; exact hb)) ?_ (SA.toks.trans (by rw [R.toks])) (SA.gens.trans R.gens) (SA.drawn.trans R.drawn) (SA.os.trans R.os)
    rw [← R.size]; exact ho
  rw [cond_true] at hr
  obtain ⟨⟨r1, p2, S2⟩, he, hr⟩ := Option.bind_eq_some_iff.mp hr
  rw [Sem.wp_bind', Sem.wp_cmd_standAt]
  rw [R.size]
  refine eo.1 _ _ _ _ _ _ _ _ _ _ _ R' he fun s2 R2 => ?_
  split at hr
  · rename_i heq
    cases heq
    cases hr
    exact hQ hso s2 R2
  · cases hr

noncomputable abbrev SO (w : World) (cs : List PySem.Str) (es : Array (Int × Value)) (ep : Nat) (t : SetTable) : Prop := Obj.SetObjOf (strKind prgH w) (setO es ep t) (fun x => cs.contains x) cs.length

theorem bind_parts {α β : Type} {x : Option α} {f : α → Option β} {r : β} (h : x.bind f = some r) : ∃ a, x = some a ∧ f a = some r := Option.bind_eq_some_iff.mp h

theorem inCls_ok (eo : EvOk (MM w) d os ev) {Γ : Ctx} {c : Code} {S : SS} {s : Shared} {p : Pos} {R : Result → Shared → Prop} (hc : Γ.code = c) (rp : Rep d os S s)
    (h : ∀ es1 ep1 t1 es2 ep2 t2, ∃ S', inCls ev (setO es1 ep1 t1) (setO es2 ep2 t2) Γ c p S = some S' ∧ (SO w csV es1 ep1 t1 → SO w csS es2 ep2 t2 → ∀ s', Rep d os S' s' → R (.ok .next) s')) : wpCode (MM w) Γ R p s := by
  obtain ⟨S0, h0, _⟩ := h #[] 0 (.fresh 0 0 true) #[] 0 (.fresh 0 0 true)
  unfold inCls at h0
  split at h0
  case h_2 => cases h0
  rename_i st1 st2 rest env
  obtain ⟨⟨r1, p1, S1⟩, hb, h0⟩ := bind_parts h0
  cases r1 with
  | error x => cases h0
  | ok u =>
  clear h0
  rw [wpCode_iff_wp, hc]
  show Sem.wp (MM w) Γ (do blockStart (st1 :: st2 :: rest) env; return Fin.done (← (execs (st1 :: st2 :: rest) env).onRaise (leaving env))) _ _ p s
  rw [Sem.wp_bind']
  refine eo.1 _ _ _ _ _ _ _ _ _ _ _ rp hb fun s1 R1 => ?_
  dsimp only
  rw [Sem.wp_bind', Sem.wp_onRaise, execs_cons, Sem.wp_bind']
  refine dispAt_ok eo (cs := csV) R1 fun es1 ep1 t1 => ?_
  obtain ⟨S', h1, _⟩ := h es1 ep1 t1 #[] 0 (.fresh 0 0 true)
  unfold inCls at h1
  dsimp only at h1
  rw [hb, Option.bind_some] at h1
  dsimp only at h1
  obtain ⟨ra, ha, h1⟩ := bind_parts h1
  refine ⟨ra, ha, fun so1 s2 R2 => ?_⟩
  dsimp only
  rw [execs_cons, Sem.wp_bind']
  refine dispAt_ok eo (cs := csS) R2 fun es2 ep2 t2 => ?_
  obtain ⟨S', h2, hq⟩ := h es1 ep1 t1 es2 ep2 t2
  unfold inCls at h2
  dsimp only at h2
  rw [hb, Option.bind_some] at h2
  dsimp only at h2
  obtain ⟨ra', ha', h2⟩ := bind_parts h2
  rw [ha] at ha'
  cases ha'
  obtain ⟨rb, hb2, h2⟩ := bind_parts h2
  refine ⟨rb, hb2, fun so2 s3 R3 => ?_⟩
  obtain ⟨⟨r4, p4, S4⟩, h4, h2⟩ := bind_parts h2
  dsimp only
  refine eo.1 _ _ _ _ _ _ _ _ _ _ _ R3 h4 fun s4 R4 => ?_
  split at h2
  · rename_i heq
    cases heq
    cases h2
    dsimp only
    rw [Sem.wp_pure']
    exact hq so1 so2 s4 R4
  · cases h2

theorem inTop_ok (eo : EvOk (MM w) d os ev) {c : Value} {f : Addr} {S : SS} {s : Shared} {p : Pos} {R : Result → Shared → Prop} (rp : Rep d os S s)
    (h : ∀ es1 ep1 t1 es2 ep2 t2, ∃ S', inTop ev ⟨(MM w).prog, (MM w).w.params⟩ body mk (setO es1 ep1 t1) (setO es2 ep2 t2) c f p S = some S' ∧ (SO w csV es1 ep1 t1 → SO w csS es2 ep2 t2 → ∀ s', Rep d os S' s' → R (.ok .next) s')) : wpCode (MM w) (gam body mk c f p) R p s := by
  obtain ⟨S0, h0, _⟩ := h #[] 0 (.fresh 0 0 true) #[] 0 (.fresh 0 0 true)
  unfold inTop at h0
  obtain ⟨⟨r1, p1, S1⟩, hb, h0⟩ := bind_parts h0
  cases r1 with
  | error x => cases h0
  | ok u =>
  obtain ⟨⟨r2, p2, S2⟩, hb2, h0⟩ := bind_parts h0
  split at h0
  case h_2 => cases h0
  rename_i r x p2' S2' cls B heq hd
  cases heq
  obtain ⟨⟨co, hh, k, p3, S3⟩, hb3, h0⟩ := bind_parts h0
  clear h0
  rw [wpCode_iff_wp]
  show Sem.wp (MM w) (gam body mk c f p) (do blockStart body (mk c f); return Fin.done (← (execs body (mk c f)).onRaise (leaving (mk c f)))) _ _ p s
  rw [Sem.wp_bind']
  refine eo.1 _ _ _ _ _ _ _ _ _ _ _ rp hb fun s1 R1 => ?_
  dsimp only
  rw [Sem.wp_bind', Sem.wp_onRaise]
  have eb : execs body (mk c f) = execs (body.take 6 ++ cls :: B) (mk c f) := by rw [← hd, List.take_append_drop]
  rw [eb]
  refine wp_execs_append _ _ _ _ _ (eo.1 _ _ _ _ _ _ _ _ _ _ _ R1 hb2 fun s2 R2 => ?_)
  dsimp only
  rw [execs_cons, Sem.wp_bind']
  refine evToN_ok eo 100000 _ _ _ _ _ _ _ _ _ _ _ R2 hb3 fun s3 R3 => ?_
  refine inCls_ok eo rfl R3 fun es1 ep1 t1 es2 ep2 t2 => ?_
  obtain ⟨S', h1, hq⟩ := h es1 ep1 t1 es2 ep2 t2
  unfold inTop at h1
  rw [hb, Option.bind_some] at h1
  dsimp only at h1
  obtain ⟨⟨r2', p2', S2'⟩, hb2', h1⟩ := bind_parts h1
  rw [hb2] at hb2'
  cases hb2'
  rw [hd] at h1
  dsimp only at h1
  obtain ⟨⟨co', hh', k', p3', S3'⟩, hb3', h1⟩ := bind_parts h1
  rw [hb3] at hb3'
  cases hb3'
  dsimp only at h1
  obtain ⟨S4, h4, h1⟩ := bind_parts h1
  refine ⟨S4, h4, fun so1 so2 s4 R4 => ?_⟩
  obtain ⟨⟨r5, p5, S5⟩, h5, h1⟩ := bind_parts h1
  refine eo.1 _ _ _ _ _ _ _ _ _ _ _ R4 h5 fun s5 R5 => ?_
  split at h1
  case h_2 => cases h1
  rename_i heq
  cases heq
  dsimp only
  obtain ⟨⟨r6, p6, S6⟩, h6, h1⟩ := bind_parts h1
  refine eo.1 _ _ _ _ _ _ _ _ _ _ _ R5 h6 fun s6 R6 => ?_
  split at h1
  case h_2 => cases h1
  rename_i heq
  cases heq
  cases h1
  dsimp only
  rw [Sem.wp_pure']
  exact hq so1 so2 s6 R6

theorem top_wp (eo : EvOk (MM w) d os ev) {pre : Sem (Value × Addr)} {S0 : SS} {s : Shared} {Post : Shared → Prop} (rp : Rep d os S0 s)
    (all : ∀ es1 ep1 t1 es2 ep2 t2, ∃ S', FullE ev ⟨(MM w).prog, (MM w).w.params⟩ pre body mk S0 (setO es1 ep1 t1) (setO es2 ep2 t2) = some S')
    (h : ∀ es1 ep1 t1 es2 ep2 t2 S', SO w csV es1 ep1 t1 → SO w csS es2 ep2 t2 → FullE ev ⟨(MM w).prog, (MM w).w.params⟩ pre body mk S0 (setO es1 ep1 t1) (setO es2 ep2 t2) = some S' → ∀ s', Rep d os S' s' → Post s') :
    Sem.wp (MM w) Γ0 (pre >>= fun cf => run (.body body (mk cf.1 cf.2)) >>= fun _ => ret .none) (fun fin _ s' => (∃ v, fin = .done (.ret v)) ∧ Post s' ∧ s'.gens = #[]) (fun _ _ _ => False) default s := by
  obtain ⟨S', h0⟩ := all #[] 0 (.fresh 0 0 true) #[] 0 (.fresh 0 0 true)
  unfold FullE at h0
  obtain ⟨⟨r1, p1, S1⟩, hb, h0⟩ := bind_parts h0
  cases r1 with
  | error x => cases h0
  | ok cf =>
  obtain ⟨c, f⟩ := cf
  clear h0
  rw [Sem.wp_bind']
  refine eo.1 _ _ _ _ _ _ _ _ _ _ _ rp hb fun s1 R1 => ?_
  dsimp only
  rw [Sem.wp_bind', Sem.wp_run]
  refine inTop_ok eo (c := c) (f := f) (body := body) (mk := mk) R1 fun es1 ep1 t1 es2 ep2 t2 => ?_
  obtain ⟨S', h1⟩ := all es1 ep1 t1 es2 ep2 t2
  have h1' := h1
  unfold FullE at h1
  rw [hb, Option.bind_some] at h1
  refine ⟨S', h1, fun so1 so2 s' R' => ?_⟩
  exact ⟨⟨_, rfl⟩, h _ _ _ _ _ _ _ so1 so2 h1' s' R', R'.gens⟩

theorem evP_ok : EvOk (MM w) d os (evP w.params) := by
  have h := evN_ok (M := MM w) (d := d) (os := os) (q := Code.quiet) (fun _ h => h) 100000
  have e : (MM w).den = den1 := by rw [den1_eq]; show denote table = _; rw [table_eq_tree]
  rw [e] at h
  exact h
end

theorem stub_eq : (topStub prgH).cur = pre >>= fun cf => run (.body bodyM (envM cf.1 cf.2)) >>= fun _ => ret .none := by
  unfold pre
  simp only [bind_assoc, pure_bind]
  rfl
end Nor
end

section
open PySem PySem.W PyProof.Rows PySem.Calls
set_option Elab.async false
set_option maxRecDepth 100000
namespace Nor

noncomputable def modsH : List PySem.Str := importedModules prgH.main.body
noncomputable def aliveAll (S : SS) : Bool := (List.range S.n).all fun a => ((S.T.get a).bind alive).isSome
noncomputable def endHeap (P : Params) (S : SS) : Heap := absHeap S.T S.n (boot_heap P).life
noncomputable def topB (P : Params) (S : SS) : Bool :=
  aliveAll S && Nat.ble 11 S.n && (endHeap P S).isNs mainGlobals && (endHeap P S).isNs builtinsNs && (endHeap P S).accountedOkI modsH && staticsOk modsH (boot_heap P) (endHeap P S) && namesBound prgH (endHeap P S) && laidKept (boot_heap P) (endHeap P S) &&
    decide ((endHeap P S).bltView = bltViewBooted) && (endHeap P S).bmainOk
noncomputable def bootLeft : List Addr := [0, 1, 4, 5, 6, 7, 8, 9, 10]

/-- the tables of the text -/
noncomputable def strL (l : List PySem.Str) : MV := .list (l.map MV.str)
noncomputable def amL (l : List (PySem.Str × Int × Int)) : MV := .list (l.map fun x => MV.am x.1 x.2.1 x.2.2)
noncomputable def globT : Fld := [
  ("_law_main", strL ["a", "ar", "as", "ast", "ane", "ande", "e", "en", "ens", "ene", "enes", "ende", "endes", "ede", "edes", "er", "es", "et", "ets", "het", "heten", "hetens", "hetene", "hetenes", "heter", "ers", "s", "ert", "erte"]),
  ("_law_signs", .str "abcdefghijklmnopqrstuvwxyzæøåêòóô'"),
  ("_law_third", strL ["leg", "eleg", "ig", "eig", "lig", "elig", "els", "lov", "elov", "slov", "hetslov"]),
  ("_law_pairs", strL ["dt", "vt"]),
  ("_law_stays", strL ["ind", "kk", "nk", "amm", "omm", "kap", "pp", "lt", "ast", "øst", "v"]),
  ("_law_falls", strL ["skap", "hav", "giv"]),
  ("_law_begin", strL ["fisk", "bok", "mor", "hus", "gull", "sjø", "skr", "o'"]),
  ("_law_never", strL ["a", "e", "ar", "en", "er", "et", "ert", "ast", "as", "es", "dt", "vt", "leg", "ig", "lov"])]
noncomputable def amT : Fld := [
  ("a_0", amL [("", -1, 1), ("ind", 0, -1), ("kk", 0, -1), ("nk", 0, -1), ("amm", 0, -1), ("omm", 0, -1), ("kap", 0, -1), ("skap", 6, 1), ("pp", 0, -1), ("lt", 0, -1), ("ast", 0, -1), ("øst", 0, -1), ("v", 0, -1), ("hav", 12, 1), ("giv", 12, 1)]),
  ("a_1", amL [("a", -1, 1), ("e", -1, 1), ("ede", 1, 1), ("ande", 1, 1), ("ende", 1, 1), ("ane", 1, 1), ("ene", 1, 1), ("hetene", 6, 1), ("erte", 1, 4), ("en", -1, 1), ("heten", 9, 1), ("ar", -1, 1), ("er", -1, 1), ("heter", 12, 1), ("s", -1, 3), ("as", 14, 1), ("es", 14, 1), ("edes", 16, 1), ("endes", 16, 1), ("enes", 16, 1), ("hetenes", 19, 1), ("ens", 14, 1), ("hetens", 21, 1), ("ers", 14, 2), ("ets", 14, 1), ("et", -1, 1), ("het", 25, 1), ("ert", -1, 4), ("ast", -1, 1)]),
  ("a_2", amL [("dt", -1, -1), ("vt", -1, -1)]),
  ("a_3", amL [("leg", -1, 1), ("eleg", 0, 1), ("ig", -1, 1), ("eig", 2, 1), ("lig", 2, 1), ("elig", 4, 1), ("els", -1, 1), ("lov", -1, 1), ("elov", 7, 1), ("slov", 7, 1), ("hetslov", 9, 1)])]
noncomputable def clsT : Fld := ("g_v", .set csV) :: ("g_s_ending", .set csS) :: amT
noncomputable def TT : Tab := ⟨fun x => get x globT, fun x => get x clsT⟩

noncomputable def defFullS (f : PySem.Str) : List Stmt → Option (Arguments × List Stmt × Scope)
  | [] => none
  | .FunctionDef n a b _ _ _ sc _ _ _ :: r => bif n == f then some (a, b, sc) else defFullS f r
  | _ :: r => defFullS f r
noncomputable def methFull (f : PySem.Str) : Option (Arguments × List Stmt × Scope) := (defFullS f (clsBody "NorwegianStemmer" prg.main.body)).or (defFullS f (clsBody "BaseStemmer" prg.main.body))
noncomputable def fullTab (f : PySem.Str) (m : Bool) : Option (Arguments × List Stmt × Scope) := bif m then methFull f else defFullS f prg.main.body
noncomputable def defNames : List Stmt → List PySem.Str
  | [] => []
  | .FunctionDef n _ _ _ _ _ _ _ _ _ :: r => n :: defNames r
  | _ :: r => defNames r
noncomputable def gNames : List PySem.Str := defNames prg.main.body
noncomputable def mNames : List PySem.Str := defNames (clsBody "NorwegianStemmer" prg.main.body) ++ defNames (clsBody "BaseStemmer" prg.main.body)

noncomputable def KS (S : SS) : Frag := (List.range S.n).map fun a => (a, (S.T.get a).getD default)
/-- what stands at an address, by the heap's tree -/
noncomputable def lkS (S : SS) (a : Nat) : Option Obj := bif Nat.blt a S.n then S.T.get a else none
noncomputable def addrG (K : Frag) (x : PySem.Str) : Option Addr := match nsIn K mainGlobals x with
  | some (some (.ref a)) => some a
  | _ => none
noncomputable def addrM (K : Frag) (C : Addr) (x : PySem.Str) : Option Addr := match findIn K (.ref C) x with
  | some (some (.ref a)) => some a
  | _ => none
noncomputable def addrC (K : Frag) (C : Addr) (x : PySem.Str) : Option Addr := match findCls K (.ref C) (.type "type") x with
  | some (.val (.ref a)) => some a
  | _ => none
noncomputable def Cof (K : Frag) : Addr := (addrG K "NorwegianStemmer").getD 0
noncomputable def labOf (K : Frag) (c : PySem.Str) : Addr := (addrG K c).getD 0

noncomputable abbrev FV := FuncBody × Scope × Arguments × Addr × Addr × List (PySem.Str × Addr) × Value × Value
noncomputable def viewF (S : SS) (a : Addr) : Option FV := match lkS S a with
  | some ⟨_, _, .func fd, _⟩ => some (fd.body, fd.scope, fd.params, fd.globals, fd.builtins, fd.closure, fd.defaults, fd.kwdefaults)
  | _ => none
noncomputable def fnOkB (S : SS) (a : Addr) : Bool := match lkS S a with
  | some ⟨_, _, .func fd, _⟩ => codeIn (KS S) fd.code fd.qualname
  | _ => false
noncomputable def textF (m : Bool) (f : PySem.Str) : Option FV := (fullTab f m).map fun d => (.stmts d.2.1, d.2.2, d.1, mainGlobals, builtinsNs, [], .none, .none)

noncomputable def lookV (x : PySem.Str) (o : Obj) : Value := match lookIn x o with
  | some (some v) => v
  | _ => .none
noncomputable def isStrB (v : Value) (s : PySem.Str) : Bool := match v with
  | .str x _ => x == s && Nat.ble s.length 1000
  | _ => false
noncomputable def isIntB (v : Value) (i : Int) : Bool := match v with
  | .int j _ => j == i
  | _ => false
noncomputable def noGetB (K : Frag) (C : Addr) (x : PySem.Str) : Bool := match findIn K (.ref C) x with
  | some a => noGet K a
  | none => false
noncomputable def amB (S : SS) (a : Addr) (s : PySem.Str) (i r : Int) : Bool := match lkS S a with
  | some ⟨.ref C, some d, .plain, _⟩ => (match lkS S d with
    | some od => isStrB (lookV "s" od) s && isIntB (lookV "substring_i" od) i && isIntB (lookV "result" od) r
    | none => false) && plainGet (KS S) C "s" && hasDictIn (KS S) C && noGetB (KS S) C "s" && noGetB (KS S) C "substring_i" && noGetB (KS S) C "result"
  | _ => false
noncomputable def vrsB (f : Value → MV → Bool) : List Value → List MV → Bool
  | [], [] => true
  | v :: r, m :: l => f v m && vrsB f r l
  | _, _ => false
noncomputable def vr1B (S : SS) (v : Value) (m : MV) : Bool := match v, m with
  | .str x _, .str s => x == s && Nat.ble s.length 1000
  | .ref a, .am s i r => amB S a s i r
  | _, _ => false
noncomputable def vrB (S : SS) (v : Value) (m : MV) : Bool := match v, m with
  | .str x _, .str s => x == s && Nat.ble s.length 1000
  | .ref a, .list l => (match lkS S a with
    | some ⟨.type "list", _, .seq xs _, _⟩ => Nat.ble l.length 1000 && vrsB (vr1B S) xs.toList l
    | _ => false)
  | _, _ => false
noncomputable def bmE : List Value := [.type "Exception", .type "BaseException", .type "object"]
noncomputable def fldB (K : Frag) (C : Addr) : Bool := fieldNames.all fun a => plainGet K C a && hasDictIn K C && noGetB K C a && (findIn K (.ref C) "__setattr__" == some (some (.builtin "object.__setattr__"))) && plainOver K C && (takerIn K C a == some none)
noncomputable def clsB (S : SS) (C : Addr) : Bool := readsIn (KS S) C (.type "type") && amT.all fun x => match findCls (KS S) (.ref C) (.type "type") x.1 with
  | some (.val u) => handedIn u && vrB S u x.2
  | _ => false
noncomputable def globB (S : SS) : Bool := globT.all fun x => match nsIn (KS S) mainGlobals x.1 with
  | some (some u) => vrB S u x.2
  | _ => false
noncomputable def labB (K : Frag) : Bool := labN.all fun c => (addrG K c).isSome && excIn K (labOf K c) bmE "Exception.__new__" && labN.all fun c' => exmOne K (.ref (labOf K c')) (.ref (labOf K c)) == some (c' == c)
noncomputable def fnsB (S : SS) (C : Addr) : Bool := (gNames.all fun n => match addrG (KS S) n with
    | some a => fnOkB S a
    | none => false) && mNames.all fun n => match addrM (KS S) C n with
    | some a => isFn (KS S) (.ref a) && plainGet (KS S) C n && fnOkB S a
    | none => false
noncomputable def factsB (S : SS) : Bool := (addrG (KS S) "NorwegianStemmer").isSome && (bltNames.all fun f => nsIn (KS S) mainGlobals f == some none) && fldB (KS S) (Cof (KS S)) && clsB S (Cof (KS S)) && globB S && makesIn (KS S) (Cof (KS S)) && keepIn (KS S) (.ref (Cof (KS S))) && labB (KS S) && fnsB S (Cof (KS S))
noncomputable def lawNameB (S : SS) : Bool := match addrG (KS S) "law" with
  | some a => (match lkS S a with
    | some ⟨_, _, .func fd, _⟩ => fd.name == "law" && fd.qualname == "law"
    | _ => false)
  | none => false
noncomputable def factsH (P : Params) (S : SS) : Bool := (endHeap P S).noSeerOk && ((endHeap P S).nsMap cStatics "sys.recursionlimit").isNone && lawNameB S

/-- what the whole top leaves, told by the kernel in one go -/
theorem ends_all (P : Params) (es1 : Array (Int × Value)) (ep1 : Nat) (t1 : SetTable) (es2 : Array (Int × Value)) (ep2 : Nat) (t2 : SetTable) :
    (Full P (setO es1 ep1 t1) (setO es2 ep2 t2)).map (fun S => ((topB P S, bootLeft.map S.T.get), (factsB S && factsH P S, (addrC (KS S) (Cof (KS S)) "g_v").bind (fun a => lkS S a), (addrC (KS S) (Cof (KS S)) "g_s_ending").bind (fun a => lkS S a), gNames.map (fun n => (addrG (KS S) n).bind (viewF S)), mNames.map (fun n => (addrM (KS S) (Cof (KS S)) n).bind (viewF S))))) =
      some ((true, bootLeft.map fun b => (boot_heap P).objs[b]?), (true, some (setO es1 ep1 t1), some (setO es2 ep2 t2), gNames.map (textF false), mNames.map (textF true))) := by kernel_rfl
theorem full_some (P : Params) (es1 : Array (Int × Value)) (ep1 : Nat) (t1 : SetTable) (es2 : Array (Int × Value)) (ep2 : Nat) (t2 : SetTable) : (Full P (setO es1 ep1 t1) (setO es2 ep2 t2)).isSome = true := by
  obtain ⟨S, h, _⟩ := Option.map_eq_some_iff.mp (ends_all P es1 ep1 t1 es2 ep2 t2)
  rw [h]; rfl
theorem ends_top (P : Params) (es1 : Array (Int × Value)) (ep1 : Nat) (t1 : SetTable) (es2 : Array (Int × Value)) (ep2 : Nat) (t2 : SetTable) :
    (Full P (setO es1 ep1 t1) (setO es2 ep2 t2)).map (fun S => (topB P S, bootLeft.map S.T.get)) = some (true, bootLeft.map fun b => (boot_heap P).objs[b]?) := by
  obtain ⟨S, h, e⟩ := Option.map_eq_some_iff.mp (ends_all P es1 ep1 t1 es2 ep2 t2)
  rw [h, Option.map_some]
  exact congrArg (fun x => some x.1) e
theorem ends_facts (P : Params) (es1 : Array (Int × Value)) (ep1 : Nat) (t1 : SetTable) (es2 : Array (Int × Value)) (ep2 : Nat) (t2 : SetTable) :
    (Full P (setO es1 ep1 t1) (setO es2 ep2 t2)).map (fun S => (factsB S && factsH P S, (addrC (KS S) (Cof (KS S)) "g_v").bind (fun a => lkS S a), (addrC (KS S) (Cof (KS S)) "g_s_ending").bind (fun a => lkS S a), gNames.map (fun n => (addrG (KS S) n).bind (viewF S)), mNames.map (fun n => (addrM (KS S) (Cof (KS S)) n).bind (viewF S)))) =
      some (true, some (setO es1 ep1 t1), some (setO es2 ep2 t2), gNames.map (textF false), mNames.map (textF true)) := by
  obtain ⟨S, h, e⟩ := Option.map_eq_some_iff.mp (ends_all P es1 ep1 t1 es2 ep2 t2)
  rw [h, Option.map_some]
  exact congrArg (fun x => some x.2) e
theorem boots (P : Params) : ((S0 P).n, (List.range 11).map (S0 P).T.get, (S0 P).k) = (11, (List.range 11).map (fun b => (boot_heap P).objs[b]?), boot_toks) := by kernel_rfl
theorem boot_sz (P : Params) : (boot_heap P).objs.size = 11 := by kernel_rfl
end Nor
end

section
open PySem PySem.W PyProof.Rows PySem.Calls
set_option Elab.async false
set_option maxRecDepth 100000
namespace Nor

theorem open_eq : opening prgH = plainProg prgH.main.scope.names := by kernel_rfl
theorem fence_eq (s : Shared) : fenceModules? prgH s = some s := by rfl

theorem alive_iff {o : Obj} (h : (alive o).isSome = true) : o.isFreed = false := by
  obtain ⟨c, d, dt, sl⟩ := o
  cases dt <;> first | rfl | cases h
theorem heap_of {d : Drawn} {os : OsState} {S : SS} {s : Shared} (R : Rep d os S s) (h : aliveAll S = true) : s.heap = absHeap S.T S.n s.heap.life := by
  have key : ∀ a, a < S.n → ∃ o, S.T.get a = some o ∧ o.isFreed = false := fun a ha => by
    have := List.all_eq_true.mp h a (List.mem_range.mpr ha)
    cases q : S.T.get a with
    | none => rw [q] at this; cases this
    | some o => rw [q] at this; exact ⟨o, rfl, alive_iff this⟩
  have : s.heap.objs = (absHeap S.T S.n s.heap.life).objs := by
    apply Array.ext_getElem?
    intro i
    rw [absHeap_at]
    by_cases hi : i < S.n
    · rw [if_pos hi]
      obtain ⟨o, e, f⟩ := key i hi
      rw [e]
      have z := R.at_ i o hi e
      rw [alive_of, f] at z
      exact (Heap.get?_some_iff.mp z).1
    · rw [if_neg hi, Array.getElem?_eq_none_iff, R.size]; omega
  show Heap.mk s.heap.objs s.heap.life = Heap.mk (absHeap S.T S.n s.heap.life).objs s.heap.life
  rw [this]

theorem rep_boot {w : World} {s : Shared} (h : s.heap = boot_heap w.params) (hg : s.gens = #[]) (hd : s.drawn = boot_drawn) (ht : s.toks = boot_toks) : Rep boot_drawn s.os (S0 w.params) s := by
  have b := boots w.params
  have b1 := congrArg Prod.fst b
  have b2 := congrArg (fun x => x.2.1) b
  have b3 := congrArg (fun x => x.2.2) b
  dsimp only at b1 b2 b3
  refine ⟨by rw [h, boot_sz, b1], fun a o ha e => ?_, ht.trans b3.symm, hg, hd, rfl⟩
  rw [b1] at ha
  have := List.map_inj_left.mp b2 a (List.mem_range.mpr ha)
  rw [e] at this
  exact get_of_objs (by rw [h]; exact this.symm)

theorem bif_true {α : Type} {x : Option α} {f : α → Bool × List (Option Obj)} {l : List (Option Obj)} (h : x.map f = some (true, l)) : ∃ a, x = some a ∧ (f a).1 = true ∧ (f a).2 = l := by
  obtain ⟨a, e, q⟩ := Option.map_eq_some_iff.mp h
  exact ⟨a, e, by rw [q], by rw [q]⟩

theorem head_ok (w : World) : (∃ s, AfterRun (opening prgH) w s) ∧ ∀ s, AfterRun (opening prgH) w s → ∃ s₀, fenceModules? prgH s = some s₀ ∧ s₀.gens = #[] ∧ ∃ s₁, TopRan prgH w s₀ s₁ ∧ s₁.asleep ∧ s₁.gens = #[] ∧
    ∃ es1 ep1 t1 es2 ep2 t2 S, SO w csV es1 ep1 t1 ∧ SO w csS es2 ep2 t2 ∧ Full w.params (setO es1 ep1 t1) (setO es2 ep2 t2) = some S ∧ aliveAll S = true ∧ s₁.heap = endHeap w.params S ∧ topB w.params S = true := by
  have h := boot_open (p := prgH) (N := 1000) open_eq rfl fence_eq w
  obtain ⟨s₀, h2, hb⟩ := Option.map_eq_some_iff.mp h
  obtain ⟨s, h4, h5⟩ := Option.bind_eq_some_iff.mp h2
  rw [← table_eq_tree] at h4
  have A := AfterImport.of_importEnds h4
  refine ⟨⟨s, A⟩, fun s' hs' => ?_⟩
  obtain rfl : s' = s := AfterImport.unique hs' A
  have z : s₀.asleep := Shared.asleep_of_life (fence_lifeW h5) A.life
  have e1 : s₀.heap = boot_heap w.params := congrArg Prod.fst hb
  have e2 : s₀.gens = #[] := congrArg (fun x => x.2.1) hb
  have e3 : s₀.drawn = boot_drawn := congrArg (fun x => x.2.2.1) hb
  have e4 : s₀.toks = boot_toks := congrArg (fun x => x.2.2.2) hb
  have rp := rep_boot e1 e2 e3 e4
  have tw := top_wp (w := w) (d := boot_drawn) (os := s₀.os) (Post := fun s₁ => ∃ es1 ep1 t1 es2 ep2 t2 S, SO w csV es1 ep1 t1 ∧ SO w csS es2 ep2 t2 ∧ Full w.params (setO es1 ep1 t1) (setO es2 ep2 t2) = some S ∧ Rep boot_drawn s₀.os S s₁) (evP_ok) (pre := pre) (body := bodyM) (mk := envM) rp
    (fun es1 ep1 t1 es2 ep2 t2 => Option.isSome_iff_exists.mp (full_some w.params es1 ep1 t1 es2 ep2 t2)) (fun es1 ep1 t1 es2 ep2 t2 S' a b c s' r => ⟨es1, ep1, t1, es2, ep2, t2, S', a, b, c, r⟩)
  rw [← stub_eq] at tw
  obtain ⟨s₁, ⟨es1, ep1, t1, es2, ep2, t2, S, so1, so2, hf, R⟩, hg, run, hl⟩ := through_of (prog := prgH) (w := w) z tw
  obtain ⟨S', hf', tb, bl⟩ := bif_true (ends_top w.params es1 ep1 t1 es2 ep2 t2)
  rw [hf] at hf'
  cases hf'
  have tb' := tb
  dsimp only at tb
  unfold topB at tb
  simp only [Bool.and_eq_true, decide_eq_true_eq] at tb
  obtain ⟨⟨⟨⟨⟨⟨⟨⟨⟨k1, k0⟩, k2⟩, k3⟩, k4⟩, k5⟩, k6⟩, k7⟩, k8⟩, k9⟩ := tb
  have hh : s₁.heap = endHeap w.params S := by
    rw [heap_of R k1, hl, e1]; rfl
  refine ⟨s₀, h5, e2, s₁, ⟨run, hl, Shared.rest_eq R.os, fun b o hb hn => ?_, ?_, ?_, ?_, ?_, ?_, ?_, ?_, ?_⟩, Shared.asleep_of_life hl z, hg, es1, ep1, t1, es2, ep2, t2, S, so1, so2, hf, k1, hh, tb'⟩
  · have lt : b < 11 := by
      have := Heap.lt_size hb
      rw [e1, boot_sz] at this; exact this
    have all : ∀ b : Nat, b < 11 → b ≠ 3 → b ≠ 2 → b ∈ bootLeft := by decide
    have mem : b ∈ bootLeft := all b lt (fun q => hn (.inl q)) (fun q => hn (.inr (.inl q)))
    have e := List.map_inj_left.mp bl b mem
    have h1 := hb
    rw [e1] at h1
    obtain ⟨h2, h3⟩ := Heap.get?_some_iff.mp h1
    rw [h2] at e
    have ltS : b < S.n := Nat.lt_of_lt_of_le lt (Nat.le_of_ble_eq_true k0)
    have := R.at_ b o ltS e
    rw [this, alive_of, h3]; rfl
  · rw [hh]; exact Heap.accountedI_of_ok k4
  · rw [hh, e1]; exact statics_of_ok k5
  · rw [hh]; exact Pin.keysAreStrs_of k2
  · rw [hh]; exact fun x hx => (Pin.builtinOf_eq k3 x).trans (Heap.of_bltView k3 k8 x hx)
  · rw [hh]
    obtain ⟨bm, ob, a, _, c, dd, f, _⟩ := Heap.bmainOk_spec k9
    exact ⟨bm, ob, (Pin.globalOf_eq k2 _).trans a, c, dd, f⟩
  · rw [hg]; intro g m; simp at m
  · rw [hh]; exact names_of_bound k6
  · rw [hh, e1]; exact laid_of_kept k7
end Nor
end

section
open PySem PySem.W PyProof.Rows PySem.Calls
set_option Elab.async false
set_option maxRecDepth 100000
namespace Nor
/-! the tables and the facts stand in H5 now: the kernel runs the top once -/
end Nor
end

section
open PySem PySem.W PyProof.Rows PySem.Calls
set_option Elab.async false
set_option maxRecDepth 100000
namespace Nor

theorem lookup_range {f : Nat → Obj} : ∀ (l : List Nat) (a : Addr) (o : Obj), (l.map fun a => (a, f a)).lookup a = some o → a ∈ l ∧ o = f a
  | [], a, o, h => by cases h
  | b :: l, a, o, h => by
    rw [List.map_cons, List.lookup_cons] at h
    cases q : a == b with
    | true =>
      rw [q] at h
      cases h
      obtain rfl := beq_iff_eq.mp q
      exact ⟨.head _, rfl⟩
    | false =>
      rw [q] at h
      obtain ⟨m, e⟩ := lookup_range l a o h
      exact ⟨.tail _ m, e⟩

theorem KS_in {P : Params} {S : SS} (al : aliveAll S = true) : (KS S).In (endHeap P S) := by
  intro a o e
  obtain ⟨m, rfl⟩ := lookup_range _ _ _ e
  have lt := List.mem_range.mp m
  have := List.all_eq_true.mp al a m
  cases q : S.T.get a with
  | none => rw [q] at this; cases this
  | some o =>
    rw [q] at this
    refine (abs_get lt q).trans ?_
    rw [alive_of, alive_iff this]; rfl

theorem lookup_mem {f : Nat → Obj} : ∀ (l : List Nat) (a : Addr), a ∈ l → (l.map fun a => (a, f a)).lookup a = some (f a)
  | [], a, h => nomatch h
  | b :: l, a, h => by
    rw [List.map_cons, List.lookup_cons]
    cases q : a == b with
    | true => rw [beq_iff_eq.mp q]
    | false =>
      rcases List.mem_cons.mp h with rfl | h
      · simp at q
      · exact lookup_mem l a h
theorem lkS_K {S : SS} {a : Nat} {o : Obj} (h : lkS S a = some o) : List.lookup a (KS S) = some o := by
  obtain ⟨lt, e⟩ := cond_some h
  refine (lookup_mem _ _ (List.mem_range.mpr (blt_spec lt))).trans ?_
  rw [e]; rfl

/-- the ground, as the top left it and a law's arguments were laid -/
noncomputable def FF (w : World) (S : SS) (h : Heap) (x dx : Addr) : Fx where
  w := w
  H := h
  K := KS S
  mg := (endHeap w.params S).nsMap mainGlobals
  mb := (endHeap w.params S).nsMap builtinsNs
  C := Cof (KS S)
  x := x
  dx := dx
  am := fun c s i r => amB S c s i r = true

theorem get_mem {x : PySem.Str} {v : MV} : ∀ {φ : Fld}, get x φ = some v → (x, v) ∈ φ
  | [], h => by cases h
  | (y, u) :: r, h => by
    unfold get at h
    cases q : y == x with
    | true => rw [q] at h; cases h; rw [beq_str q]; exact .head _
    | false => rw [q] at h; exact .tail _ (get_mem h)

section
variable {w : World} {S : SS} {h : Heap} {x dx : Addr}
theorem vr1_ok {v : Value} {m : MV} (e : vr1B S v m = true) {h' : Heap} : VR (FF w S h x dx) h' v m := by
  unfold vr1B at e
  split at e
  · obtain ⟨a, b⟩ := Bool.and_eq_true_iff.mp e
    rw [beq_str a]
    exact .str _ _ (Nat.le_trans (Nat.le_of_ble_eq_true b) (by decide))
  · exact .am _ _ _ _ e
  · cases e
theorem vrs_ok {h' : Heap} : ∀ {vs : List Value} {l : List MV}, vrsB (vr1B S) vs l = true → VRs (FF w S h x dx) h' vs l
  | [], [], _ => .nil
  | v :: vs, m :: l, e => by
    obtain ⟨a, b⟩ := Bool.and_eq_true_iff.mp e
    exact .cons (vr1_ok a) (vrs_ok b)
  | [], _ :: _, e => by cases e
  | _ :: _, [], e => by cases e
theorem vr_ok (X : (KS S).In h) {v : Value} {m : MV} (e : vrB S v m = true) : VR (FF w S h x dx) h v m := by
  unfold vrB at e
  split at e
  · obtain ⟨a, b⟩ := Bool.and_eq_true_iff.mp e
    rw [beq_str a]
    exact .str _ _ (Nat.le_trans (Nat.le_of_ble_eq_true b) (by decide))
  · split at e
    · rename_i d xs n sl hq
      obtain ⟨a, b⟩ := Bool.and_eq_true_iff.mp e
      exact .list _ xs.toList _ ⟨_, X _ _ (lkS_K hq), rfl, n, rfl⟩ (Nat.le_trans (Nat.le_of_ble_eq_true a) (by decide)) (vrs_ok b)
    · cases e
  · cases e

theorem lookV_spec {x : PySem.Str} {o : Obj} {v : Value} (e : lookV x o = v) (n : v ≠ .none) : lookIn x o = some (some v) := by
  unfold lookV at e
  split at e
  · rename_i q; rw [q, e]
  · exact absurd e.symm n
theorem isStrB_spec {v : Value} {s : PySem.Str} (e : isStrB v s = true) : ∃ t, v = .str s t ∧ s.length ≤ sizeLine := by
  unfold isStrB at e
  split at e
  · obtain ⟨a, b⟩ := Bool.and_eq_true_iff.mp e
    exact ⟨_, by rw [beq_str a], Nat.le_trans (Nat.le_of_ble_eq_true b) (by decide)⟩
  · cases e
theorem isIntB_spec {v : Value} {i : Int} (e : isIntB v i = true) : ∃ t, v = .int i t := by
  unfold isIntB at e
  split at e
  · exact ⟨_, by rw [beq_iff_eq.mp e]⟩
  · cases e
theorem noGetB_spec {K : Frag} {C : Addr} {x : PySem.Str} (e : noGetB K C x = true) : ∃ a, findIn K (.ref C) x = some a ∧ noGet K a = true := by
  unfold noGetB at e
  split at e
  · rename_i a q; exact ⟨a, q, e⟩
  · cases e

theorem am_ok (X : (KS S).In h) {c : Addr} {s : PySem.Str} {i r : Int} (e : amB S c s i r = true) {a : PySem.Str} {v : MV} (he : amAttr s i r a = some v) :
    ∃ u, VR (FF w S h x dx) h u v ∧ ∀ (expr : Bool) (A : Around) (E : Value → Shared → Prop) (Q : Value → Shared → Prop) (s : Shared), h.StaysIn s.heap → Q u { s with toks := s.toks + 1 } → wpAny (model prg w) A (getAttr (.ref c) a expr) Q E s := by
  unfold amB at e
  split at e
  case h_2 => cases e
  rename_i C d sl hc
  split at e
  case h_2 => cases e
  rename_i od hd
  simp only [Bool.and_eq_true] at e
  obtain ⟨⟨⟨⟨⟨⟨⟨e1, e2⟩, e3⟩, e4⟩, e5⟩, e6⟩, e7⟩, e8⟩ := e
  have fin : ∀ {a : PySem.Str} {u : Value}, noGetB (KS S) C a = true → lookIn a od = some (some u) → handedIn u = true → ∀ (expr : Bool) (A : Around) (E : Value → Shared → Prop) (Q : Value → Shared → Prop) (s : Shared), h.StaysIn s.heap → Q u { s with toks := s.toks + 1 } → wpAny (model prg w) A (getAttr (.ref c) a expr) Q E s := by
    intro a u ng hl hu expr A E Q s st q
    obtain ⟨at_, f1, f2⟩ := noGetB_spec ng
    have IA : InstAt s.heap c ⟨.ref C, some d, .plain, sl⟩ C (some od) := ⟨st _ _ (X _ _ (lkS_K hc)), rfl, rfl, st _ _ (X _ _ (lkS_K hd))⟩
    exact get_value (X.keeps st) IA (plainGet_of e4).1 (findObj_own e5 f1 f2 hl) hu q
  unfold amAttr at he
  cases q1 : a == "s" with
  | true =>
    rw [q1] at he
    cases he
    obtain rfl := beq_str q1
    obtain ⟨t, ev, z⟩ := isStrB_spec e1
    exact ⟨_, .str s t z, fin e6 (lookV_spec ev (by simp)) rfl⟩
  | false =>
    rw [q1] at he
    simp only [cond_false] at he
    cases q2 : a == "substring_i" with
    | true =>
      rw [q2] at he
      cases he
      obtain rfl := beq_str q2
      obtain ⟨t, ev⟩ := isIntB_spec e2
      exact ⟨_, .int i t, fin e7 (lookV_spec ev (by simp)) rfl⟩
    | false =>
      rw [q2] at he
      simp only [cond_false] at he
      obtain ⟨q3, he⟩ := cond_some he
      cases he
      obtain rfl := beq_str q3
      obtain ⟨t, ev⟩ := isIntB_spec e3
      exact ⟨_, .int r t, fin e8 (lookV_spec ev (by simp)) rfl⟩
end

theorem defOf_full (f : PySem.Str) : ∀ l : List Stmt, defOfS f l = (defFullS f l).map fun d => ⟨d.1.args.map (·.arg), d.2.2.names, d.2.1⟩
  | [] => rfl
  | st :: r => by
    cases st <;> simp only [defOfS, defFullS, defOf_full f r]
    rename_i n a b c d e sc g i j
    cases n == f <;> rfl
theorem full_mem {f : PySem.Str} : ∀ {l : List Stmt} {d}, defFullS f l = some d → f ∈ defNames l
  | [], _, h => by cases h
  | st :: r, d, h => by
    cases st <;> simp only [defFullS, defNames] at h ⊢ <;> try exact full_mem h
    rename_i n a b c d e sc g i j
    cases q : n == f with
    | true => rw [beq_str q]; exact .head _
    | false => rw [q] at h; exact .tail _ (full_mem h)

theorem fm_congr {α β : Type} {f g : α → Option β} : ∀ {l : List α}, (∀ n ∈ l, f n = g n) → l.filterMap f = l.filterMap g
  | [], _ => rfl
  | a :: l, h => by rw [List.filterMap_cons, List.filterMap_cons, h a (.head _), fm_congr fun n m => h n (.tail _ m)]
/-- plain parameters bind as they come -/
theorem bind_simple {fd : FuncData} {vs : List Value} (h1 : fd.params.posonlyargs = []) (h2 : fd.params.vararg = none) (h3 : fd.params.kwonlyargs = []) (h4 : fd.params.kwarg = none) (h5 : fd.defaults = .none) (nd : (fd.params.args.map (·.arg)).Nodup)
    (len : vs.length = (fd.params.args.map (·.arg)).length) : bindArgs fd ⟨vs, []⟩ = pure ((fd.params.args.map (·.arg)).zip vs) := by
  have lk : ∀ (ps : List PySem.Str) (vs : List Value), vs.length = ps.length → ∀ n ∈ ps, ((ps.zip vs).lookup n).isNone = false := by
    intro ps
    induction ps with
    | nil => intro vs _ n hn; cases hn
    | cons p ps ih =>
      intro vs hl n hn
      cases vs with
      | nil => cases hl
      | cons v vs =>
        rw [List.zip_cons_cons, List.lookup_cons]
        cases q : n == p with
        | true => rfl
        | false =>
          rcases List.mem_cons.mp hn with rfl | hn
          · simp at q
          · exact ih vs (by simpa using hl) n hn
  have fm : ∀ (ps : List PySem.Str) (vs : List Value), ps.Nodup → vs.length = ps.length → ps.filterMap (fun n => ((ps.zip vs).lookup n).map (n, ·)) = ps.zip vs := by
    intro ps
    induction ps with
    | nil => intro vs _ _; rfl
    | cons p ps ih =>
      intro vs nd hl
      cases vs with
      | nil => cases hl
      | cons v vs =>
        obtain ⟨np, nd⟩ := List.nodup_cons.mp nd
        rw [List.zip_cons_cons, List.filterMap_cons, List.lookup_cons]
        simp only [beq_self_eq_true, Option.map_some]
        congr 1
        refine (fm_congr fun n hn => ?_).trans (ih vs nd (by simpa using hl))
        have ne : (n == p) = false := by rw [beq_eq_false_iff_ne]; exact fun q => np (q ▸ hn)
        rw [List.lookup_cons, ne]
  have sq : seqItems? Value.none = pure none := rfl
  generalize hps : fd.params.args.map (·.arg) = ps at *
  have ms : (ps.filter fun n => ((ps.zip vs).lookup n).isNone) = [] := by
    rw [List.filter_eq_nil_iff]
    exact fun n hn => by rw [lk _ _ len n hn]; exact Bool.false_ne_true
  have ft := fm ps vs nd len
  have gt : ¬ (vs.length > ps.length) := by omega
  unfold bindArgs
  simp only [h1, h2, h3, h4, h5, hps, List.map_nil, List.nil_append, List.append_nil, List.forIn_nil, pure_bind, sq, Option.getD_none, gt, decide_false, Bool.false_and, Bool.false_eq_true, if_false, List.length_nil, Nat.zero_sub, List.drop_nil, Nat.sub_zero, List.take_length, ms, List.isEmpty_nil, Bool.not_true, List.zip_nil_right, ft]

theorem nodupB_ok : ∀ {l : List PySem.Str}, nodupB l = true → l.Nodup
  | [], _ => List.nodup_nil
  | a :: l, q => by
    unfold nodupB at q
    simp only [Bool.and_eq_true, Bool.not_eq_true'] at q
    exact List.nodup_cons.mpr ⟨(fun m => by rw [List.contains_iff_mem.mpr m] at q; cases q.1), nodupB_ok q.2⟩
noncomputable def simpleA (a : Arguments) : Bool := a.posonlyargs.isEmpty && a.vararg.isNone && a.kwonlyargs.isEmpty && a.kwarg.isNone && nodupB (a.args.map (·.arg))
noncomputable def scopeB (ps : List PySem.Str) (sc : Scope) : Bool := (match sc.kind with | .function => true | _ => false) && !sc.isCoroutine && !sc.isGenerator && (sc.names.all fun x => match x.2 with | .cell => false | _ => true) && ps.all fun p => match sc.names.lookup p with | some .local => true | _ => false
noncomputable def textOk (m : Bool) (n : PySem.Str) : Bool := match fullTab n m with
  | some d => simpleA d.1 && scopeB (d.1.args.map (·.arg)) d.2.2
  | none => false
theorem texts : (gNames.all (textOk false) && mNames.all (textOk true)) = true := by kernel_rfl
theorem blts : ∀ f ∈ bltNames, f ≠ "__name__" ∧ bootBuiltins f = some (bltVal f) := by
  have : bltNames.all (fun f => !(f == "__name__") && (bootBuiltins f == some (bltVal f))) = true := by kernel_rfl
  intro f m
  have := List.all_eq_true.mp this f m
  simp only [Bool.and_eq_true, Bool.not_eq_true', beq_iff_eq] at this
  exact ⟨by simpa using this.1, this.2⟩

section
variable {w : World} {S : SS} {h : Heap} {x dx : Addr}
theorem fnAt_of (X : (KS S).In h) {m : Bool} {n : PySem.Str} {a : Addr} {d : Arguments × List Stmt × Scope} (hd : fullTab n m = some d) (ht : textOk m n = true) (hf : fnOkB S a = true) (hv : viewF S a = textF m n) :
    ∃ o fd, FnAt (FF w S h x dx) a ⟨d.1.args.map (·.arg), d.2.2.names, d.2.1⟩ o fd := by
  unfold fnOkB at hf
  split at hf
  case h_2 => cases hf
  rename_i c od fd sl hl
  unfold viewF at hv
  rw [hl] at hv
  unfold textF at hv
  rw [hd, Option.map_some] at hv
  simp only [Option.some.injEq, Prod.mk.injEq] at hv
  obtain ⟨v1, v2, v3, v4, v5, v6, v7, v8⟩ := hv
  unfold textOk at ht
  rw [hd] at ht
  dsimp only at ht
  unfold simpleA scopeB at ht
  simp only [Bool.and_eq_true, Bool.not_eq_true', List.isEmpty_iff, Option.isNone_iff_eq_none] at ht
  obtain ⟨⟨⟨⟨⟨t1, t2⟩, t3⟩, t4⟩, t5⟩, ⟨⟨⟨t6, t7⟩, t8⟩, t9⟩, t10⟩ := ht
  refine ⟨_, fd, X _ _ (lkS_K hl), rfl, v1, by rw [v2], ?_, by rw [v2]; exact t7, by rw [v2]; exact t8, fun y hy => ?_, fun p hp => ?_, v4, v5, v6, codeRec_of X hf, fun vs len => ?_, nodupB_ok t5⟩
  · rw [v2]
    cases q : d.2.2.kind with
    | function => rfl
    | _ => rw [q] at t6; cases t6
  · rw [v2] at hy
    have := List.all_eq_true.mp t9 y hy
    intro q
    rw [q] at this
    cases this
  · rw [v2]
    have := List.all_eq_true.mp t10 p hp
    cases q : d.2.2.names.lookup p with
    | none => rw [q] at this; cases this
    | some k =>
      rw [q] at this
      cases k <;> first | rfl | cases this
  · have := bind_simple (fd := fd) (vs := vs) (by rw [v3]; exact t1) (by rw [v3]; exact t2) (by rw [v3]; exact t3) (by rw [v3]; exact t4) v7 (by rw [v3]; exact nodupB_ok t5) (by rw [v3]; exact len)
    rw [v3] at this
    exact this
end
end Nor
end

section
open PySem PySem.W PyProof.Rows PySem.Calls
set_option Elab.async false
set_option maxRecDepth 100000
namespace Nor

/-- all that was looked at, at the top's end -/
structure Looked (w : World) (S : SS) (h : Heap) : Prop where
  top : topB w.params S = true
  fb : factsB S = true
  fh : factsH w.params S = true
  g : gNames.map (fun n => (addrG (KS S) n).bind (viewF S)) = gNames.map (textF false)
  m : mNames.map (fun n => (addrM (KS S) (Cof (KS S)) n).bind (viewF S)) = mNames.map (textF true)
  v : ∃ a, addrC (KS S) (Cof (KS S)) "g_v" = some a ∧ ∃ n, h.SetOf (strKind prg w) a (fun k => csV.contains k) n
  s : ∃ a, addrC (KS S) (Cof (KS S)) "g_s_ending" = some a ∧ ∃ n, h.SetOf (strKind prg w) a (fun k => csS.contains k) n
  keep : (endHeap w.params S).StaysIn h

section
variable {w : World} {S : SS} {h : Heap} {x dx : Addr}
theorem Looked.alive (q : Looked w S h) : aliveAll S = true := by
  have := q.top
  unfold topB at this
  simp only [Bool.and_eq_true] at this
  exact this.1.1.1.1.1.1.1.1.1
theorem Looked.X (q : Looked w S h) : (KS S).In h := (KS_in q.alive).keeps q.keep

theorem addrC_spec {K : Frag} {C a : Addr} {x : PySem.Str} (e : addrC K C x = some a) : findCls K (.ref C) (.type "type") x = some (.val (.ref a)) := by
  unfold addrC at e
  split at e
  · rename_i q; cases e; exact q
  · cases e
theorem addrG_spec {K : Frag} {a : Addr} {x : PySem.Str} (e : addrG K x = some a) : nsIn K mainGlobals x = some (some (.ref a)) := by
  unfold addrG at e
  split at e
  · rename_i q; cases e; exact q
  · cases e
theorem addrM_spec {K : Frag} {C a : Addr} {x : PySem.Str} (e : addrM K C x = some a) : findIn K (.ref C) x = some (some (.ref a)) := by
  unfold addrM at e
  split at e
  · rename_i q; cases e; exact q
  · cases e

theorem Looked.facts (q : Looked w S h) : Facts (FF w S h x dx) TT := by
  have X := q.X
  have tb := q.top
  unfold topB at tb
  simp only [Bool.and_eq_true, decide_eq_true_eq] at tb
  obtain ⟨⟨⟨⟨⟨⟨⟨⟨⟨k1, k0⟩, k2⟩, k3⟩, k4⟩, k5⟩, k6⟩, k7⟩, k8⟩, k9⟩ := tb
  have fb := q.fb
  unfold factsB at fb
  simp only [Bool.and_eq_true] at fb
  obtain ⟨⟨⟨⟨⟨⟨⟨⟨b1, b2⟩, b3⟩, b4⟩, b5⟩, b6⟩, b7⟩, b8⟩, b9⟩ := fb
  have fh := q.fh
  unfold factsH Heap.noSeerOk at fh
  simp only [Bool.and_eq_true, Option.isNone_iff_eq_none] at fh
  obtain ⟨⟨⟨⟨⟨⟨c1, c2⟩, c3⟩, c4⟩, c5⟩, c6⟩, c7⟩ := fh
  have G : h.Ns mainGlobals ((endHeap w.params S).nsMap mainGlobals) := (Heap.Ns.of_isNs k2).keeps q.keep
  have B : h.Ns builtinsNs ((endHeap w.params S).nsMap builtinsNs) := (Heap.Ns.of_isNs k3).keeps q.keep
  have lim : h.NoLimit := ⟨_, (Heap.Ns.of_isNs c1).keeps q.keep, c6⟩
  have bb : ∀ y : PySem.Str, y ≠ "__name__" → (endHeap w.params S).nsMap builtinsNs y = bootBuiltins y := fun y hy => Heap.of_bltView k3 k8 y hy
  have seer : h.NoSeer := by
    obtain ⟨bm, ob, d1, _, d3, d4, d5, _⟩ := Heap.bmainOk_spec k9
    exact ⟨⟨_, (Heap.Ns.of_isNs c1).keeps q.keep, c2, c3⟩, ⟨_, (Heap.Ns.of_isNs c4).keeps q.keep, c5⟩, ⟨_, B, bb⟩, ⟨_, bm, ob, G, d1, q.keep _ _ d3, d4, d5⟩⟩
  refine ⟨X, G, B, fun f hf => ⟨?_, ?_⟩, lim, fun A env envs s st hr fr ge co bl gl => ?_, fun y v e => ?_, ?_, fun a v e => ?_, fun c y i r e a v he => am_ok X e he, fun a ha => ?_, fun n d e => ?_, fun n d e => ?_⟩
  · exact ns_none_of X G (beq_iff_eq.mp (List.all_eq_true.mp b2 f hf))
  · obtain ⟨e1, e2⟩ := blts f hf
    exact (bb f e1).trans e2
  · exact PylongRoom.of (lim.keeps st) (by have := hr.1; show A.depth + 100 < _; omega) (SeerAt.of (seer.keeps st) rfl fr ge co bl gl)
  · have := List.all_eq_true.mp b5 _ (get_mem e)
    dsimp only at this
    split at this
    · rename_i u hu; exact ⟨u, mg_of X G hu, vr_ok X this⟩
    · cases this
  · obtain ⟨a, ha⟩ := Option.isSome_iff_exists.mp b1
    have : (FF w S h x dx).C = a := by show (addrG (KS S) "NorwegianStemmer").getD 0 = a; rw [ha]; rfl
    rw [this]
    exact mg_of X G (addrG_spec ha)
  · obtain ⟨r1, r2⟩ := Bool.and_eq_true_iff.mp b4
    have rd : ∀ {u : Value}, findCls (KS S) (.ref (Cof (KS S))) (.type "type") a = some (.val u) → handedIn u = true → ∀ (expr : Bool) (A : Around) (E : Value → Shared → Prop) (Q : Value → Shared → Prop) (s : Shared), h.StaysIn s.heap → Q u { s with toks := s.toks + 1 } →
      wpAny (model prg w) A (getAttr (.ref (Cof (KS S))) a expr) Q E s := fun hu hh expr A E Q s st qq => cls_value (X.keeps st) r1 hu hh qq
    have gm : (a, v) ∈ clsT := get_mem e
    unfold clsT at gm
    rcases List.mem_cons.mp gm with e | e
    · obtain ⟨rfl, rfl⟩ := Prod.mk.inj e
      obtain ⟨sa, s1, n, s2⟩ := q.v
      exact ⟨_, .set sa _ ⟨n, s2⟩, rd (addrC_spec s1) rfl⟩
    · rcases List.mem_cons.mp e with e | e
      · obtain ⟨rfl, rfl⟩ := Prod.mk.inj e
        obtain ⟨sa, s1, n, s2⟩ := q.s
        exact ⟨_, .set sa _ ⟨n, s2⟩, rd (addrC_spec s1) rfl⟩
      · have := List.all_eq_true.mp r2 _ e
        dsimp only at this
        split at this
        · rename_i u hu
          obtain ⟨f1, f2⟩ := Bool.and_eq_true_iff.mp this
          exact ⟨u, vr_ok X f2, rd hu f1⟩
        · cases this
  · have := List.all_eq_true.mp b3 a ha
    simp only [Bool.and_eq_true, beq_iff_eq] at this
    obtain ⟨⟨⟨⟨⟨f1, f2⟩, f3⟩, f4⟩, f5⟩, f6⟩ := this
    obtain ⟨at_, g1, g2⟩ := noGetB_spec f3
    exact ⟨f1, f2, ⟨at_, g1, g2⟩, f4, f5, f6⟩
  · have e' : methFull n = none ∨ ∃ d', methFull n = some d' ∧ d = ⟨d'.1.args.map (·.arg), d'.2.2.names, d'.2.1⟩ := by
      unfold methOf at e
      unfold methFull
      rw [defOf_full, defOf_full] at e
      cases q1 : defFullS n (clsBody "NorwegianStemmer" prg.main.body) with
      | some d1 => rw [q1] at e; cases e; exact .inr ⟨_, rfl, rfl⟩
      | none =>
        rw [q1] at e
        cases q2 : defFullS n (clsBody "BaseStemmer" prg.main.body) with
        | some d2 => rw [q2] at e; cases e; exact .inr ⟨_, rfl, rfl⟩
        | none => rw [q2] at e; cases e
    rcases e' with e' | ⟨d', e', rfl⟩
    · unfold methOf at e
      unfold methFull at e'
      rw [defOf_full, defOf_full] at e
      rw [Option.or_eq_none_iff] at e'
      rw [e'.1, e'.2] at e
      cases e
    · have mem : n ∈ mNames := by
        unfold methFull at e'
        unfold mNames
        cases q1 : defFullS n (clsBody "NorwegianStemmer" prg.main.body) with
        | some d1 => exact List.mem_append_left _ (full_mem q1)
        | none => rw [q1, Option.none_or] at e'; exact List.mem_append_right _ (full_mem e')
      unfold fnsB at b9
      have f := List.all_eq_true.mp (Bool.and_eq_true_iff.mp b9).2 n mem
      have hv := List.map_inj_left.mp q.m n mem
      have ht := List.all_eq_true.mp (Bool.and_eq_true_iff.mp texts).2 n mem
      cases qa : addrM (KS S) (Cof (KS S)) n with
      | none => rw [qa] at f; cases f
      | some a =>
        rw [qa] at f hv
        simp only [Bool.and_eq_true] at f
        obtain ⟨⟨f1, f2⟩, f3⟩ := f
        obtain ⟨o, fd, fa⟩ := fnAt_of (w := w) (x := x) (dx := dx) X (m := true) (n := n) e' ht f3 hv
        exact ⟨a, o, fd, addrM_spec qa, f1, f2, fa⟩
  · rw [defOf_full] at e
    obtain ⟨d', e', rfl⟩ := Option.map_eq_some_iff.mp e
    have mem : n ∈ gNames := full_mem e'
    unfold fnsB at b9
    have f := List.all_eq_true.mp (Bool.and_eq_true_iff.mp b9).1 n mem
    have hv := List.map_inj_left.mp q.g n mem
    have ht := List.all_eq_true.mp (Bool.and_eq_true_iff.mp texts).1 n mem
    cases qa : addrG (KS S) n with
    | none => rw [qa] at f; cases f
    | some a =>
      rw [qa] at f hv
      obtain ⟨o, fd, fa⟩ := fnAt_of (w := w) (x := x) (dx := dx) X (m := false) (n := n) e' ht f hv
      exact ⟨a, o, fd, mg_of X G (addrG_spec qa), fa⟩

theorem Looked.labs (q : Looked w S h) : LabOk (FF w S h x dx) (labOf (KS S)) := by
  have X := q.X
  have K := q.facts (x := x) (dx := dx)
  have fb := q.fb
  unfold factsB at fb
  simp only [Bool.and_eq_true] at fb
  obtain ⟨⟨⟨⟨⟨⟨⟨⟨b1, b2⟩, b3⟩, b4⟩, b5⟩, b6⟩, b7⟩, b8⟩, b9⟩ := fb
  have tb := q.top
  unfold topB at tb
  simp only [Bool.and_eq_true, decide_eq_true_eq] at tb
  obtain ⟨⟨⟨⟨⟨⟨⟨⟨⟨k1, k0⟩, k2⟩, k3⟩, k4⟩, k5⟩, k6⟩, k7⟩, k8⟩, k9⟩ := tb
  refine ⟨fun c hc => ?_, fun c hc c' hc' => ?_⟩
  · have := List.all_eq_true.mp b8 c hc
    simp only [Bool.and_eq_true] at this
    obtain ⟨⟨f1, f2⟩, f3⟩ := this
    obtain ⟨a, ha⟩ := Option.isSome_iff_exists.mp f1
    have T : TopRead prg ((endHeap w.params S).nsKeys mainGlobals) (FF w S h x dx).mg (FF w S h x dx).mb h :=
      ⟨K.g, K.b, K.lim, fun y hy => Heap.of_bltView k3 k8 y hy, fun y _ hy _ _ _ => Heap.nsMap_none hy⟩
    have ea : labOf (KS S) c = a := by unfold labOf; rw [ha]; rfl
    rw [ea] at f2 ⊢
    exact own_of_in X T (addrG_spec ha) f2
  · have := List.all_eq_true.mp b8 c hc
    simp only [Bool.and_eq_true] at this
    exact beq_iff_eq.mp (List.all_eq_true.mp this.2 c' hc')
end
end Nor
end

section
open PySem PySem.W PyProof.Rows PySem.Calls
set_option Elab.async false
set_option maxRecDepth 100000
namespace Nor

noncomputable abbrev LW : OpenLaw := PySem.Challenge.rw_is0011_01
theorem law_bare : prgH.bare := ⟨rfl, rfl, rfl, rfl, rfl, by kernel_rfl⟩
theorem law_opens : opensWell prgH = true := by kernel_rfl
theorem law_frees : frees LW.row.toRowW = true := by kernel_rfl
theorem law_promised : LW.row.toRowW.promised := ⟨[.list []], by decide +kernel, by decide +kernel⟩
theorem law_def : prgH.theDef "law" = fullTab "law" false := by kernel_rfl
theorem law_full : (fullTab "law" false).any (fun d => (match d.1.defaults, d.1.kwonlyargs, d.1.kw_defaults with | [], [], [] => true | _, _, _ => false)) = true := by kernel_rfl
theorem law_in : gNames.contains "law" = true := by kernel_rfl
theorem law_said : LW.wellSaid = true := by kernel_rfl

noncomputable def headE : EV → Bool
  | .callN y as => y == "NorwegianStemmer" && as.isEmpty
  | _ => false
noncomputable def headS : SV → Bool
  | .asgN x e => x == "one" && headE (viewE e)
  | _ => false
noncomputable def headB : List Stmt → Bool
  | st :: _ => headS (viewS st)
  | [] => false
noncomputable def lawHead (d : Def) : Bool := d.params == [("script" : PySem.Str)] && (headB d.body && (isLoc d.names "one" && isGlob d.names "NorwegianStemmer"))
theorem headE_shape {e : Expr} (h : headE (viewE e) = true) : ∃ p q, e = .Call (.Name "NorwegianStemmer" p) [] [] q := by
  have iv := viewE_inv e
  generalize viewE e = ve at iv h
  cases ve with
  | callN y as =>
    obtain ⟨p, q, rfl⟩ := iv
    obtain ⟨h1, h2⟩ := Bool.and_eq_true_iff.mp h
    obtain rfl := beq_str h1
    cases as with
    | nil => exact ⟨p, q, rfl⟩
    | cons _ _ => cases h2
  | _ => cases h
theorem headS_shape {st : Stmt} (h : headS (viewS st) = true) : ∃ p1 p2 p3 p4, st = .Assign [.Name "one" p1] (.Call (.Name "NorwegianStemmer" p2) [] [] p3) p4 := by
  have iv := viewS_inv st
  generalize viewS st = vw at iv h
  cases vw with
  | asgN x e =>
    obtain ⟨p1, p4, rfl⟩ := iv
    obtain ⟨h1, h2⟩ := Bool.and_eq_true_iff.mp h
    obtain rfl := beq_str h1
    obtain ⟨p2, p3, rfl⟩ := headE_shape h2
    exact ⟨p1, p2, p3, p4, rfl⟩
  | _ => cases h
theorem lawHead_shape {d : Def} (h : lawHead d = true) : ∃ rest p1 p2 p3 p4, d.params = [("script" : PySem.Str)] ∧ d.body = .Assign [.Name "one" p1] (.Call (.Name "NorwegianStemmer" p2) [] [] p3) p4 :: rest ∧ isLoc d.names "one" = true ∧ isGlob d.names "NorwegianStemmer" = true := by
  obtain ⟨h1, h⟩ := Bool.and_eq_true_iff.mp h
  obtain ⟨h2, h⟩ := Bool.and_eq_true_iff.mp h
  obtain ⟨h3, h4⟩ := Bool.and_eq_true_iff.mp h
  cases eb : d.body with
  | nil => rw [eb] at h2; cases h2
  | cons st rest =>
    rw [eb] at h2
    obtain ⟨p1, p2, p3, p4, rfl⟩ := headS_shape h2
    exact ⟨rest, p1, p2, p3, p4, eq_of_beq h1, rfl, h3, h4⟩
theorem law_head : (defOfS "law" prg.main.body).any lawHead = true := by kernel_rfl
theorem init_there : (methOf "__init__").isSome = true := by kernel_rfl
noncomputable def lawDef : Def := (defOfS "law" prg.main.body).getD ⟨[], [], []⟩

/-- the plain law: what the mini-interpreter answers -/
noncomputable def LawRuns (il : List Int) : Prop := ∃ φ0 σ', callN TT 9 "__init__" [.self] [] = some (.none, φ0) ∧
  exS TT (callN TT 9) lawDef.names depth ⟨[("script", .list (il.map .int)), ("one", .self)], φ0⟩ lawDef.body.tail = some (.ret (.bool true), σ')

end Nor
end

section
open PySem PySem.W PyProof.Rows PySem.Calls
set_option Elab.async false
set_option maxRecDepth 100000
namespace Nor

noncomputable def intL : List WData → List Int
  | [] => []
  | .int i :: r => i :: intL r
  | _ :: r => intL r
/-- a list of ints, as it was laid -/
theorem all_ints {R : WRecords} {cl : PySem.Str → Option Addr} {h : Heap} {F : Fx} : ∀ {vs : List Value} {ds : List WData} {as : List Addr}, ReadsAllW R cl h vs ds as → WShape.hasItems R ds .int = true → (intL ds).length = ds.length ∧ VRs F h vs ((intL ds).map MV.int)
  | [], _, _, .nil, _ => ⟨rfl, .nil⟩
  | v :: vs, _, _, .cons (d := d) (ds := ds) r rs, e => by
    unfold WShape.hasItems at e
    rw [Bool.and_eq_true] at e
    obtain ⟨l, q⟩ := all_ints rs e.2
    cases d with
    | int i =>
      cases r with
      | int _ t => exact ⟨by simp [intL, l], .cons (.int i t) q⟩
    | _ => exact absurd e.1 (by simp [WShape.has, WShape.arms])

theorem holds_of (P : ∀ il : List Int, il.length ≤ 63 → LawRuns il) : LW.Holds := by
  refine holds_law law_said fun said => ⟨said, law_promised, ?_⟩
  obtain ⟨hsame, hu, ha, hap, hm⟩ := frees_parts law_frees
  refine ⟨⟨law_bare, law_opens, rfl⟩, law_promised.witness, fun w => ⟨(head_ok w).1, fun s' hs' => ?_⟩⟩
  obtain ⟨s₀, hf, hg0, s, hT, hz, hgens, es1, ep1, t1, es2, ep2, t2, S, so1, so2, hF, al, hh, tb⟩ := (head_ok w).2 s' hs'
  obtain ⟨S', hF', ef⟩ := Option.map_eq_some_iff.mp (ends_facts w.params es1 ep1 t1 es2 ep2 t2)
  rw [hF] at hF'
  cases hF'
  obtain ⟨q1, q2, q3, q4, q5⟩ : _ ∧ _ ∧ _ ∧ _ ∧ _ := by simpa only [Prod.mk.injEq] using ef
  obtain ⟨fb, fh⟩ := Bool.and_eq_true_iff.mp q1
  have look : ∀ h : Heap, (endHeap w.params S).StaysIn h → Looked w S h := fun h k => by
    have st : ∀ {cs : List PySem.Str} {es ep t x}, SO w cs es ep t → cs.length < 100 → (addrC (KS S) (Cof (KS S)) x).bind (fun a => lkS S a) = some (setO es ep t) → ∃ a, addrC (KS S) (Cof (KS S)) x = some a ∧ ∃ n, h.SetOf (strKind prg w) a (fun k => cs.contains k) n := fun {cs es ep t x} so lt e => by
      obtain ⟨a, e1, e2⟩ := Option.bind_eq_some_iff.mp e
      exact ⟨a, e1, cs.length, so.setOf (k _ _ (KS_in al _ _ (lkS_K e2))) (by unfold scanBound; omega)⟩
    exact ⟨tb, fb, fh, q4, q5, st so1 (by decide) q2, st so2 (by decide) q3, k⟩
  refine ⟨s₀, hf, hg0, s, hT, fun n hn => ?_, fun x hx => (nomatch hx), fun x hx => (nomatch hx), ?_⟩
  · obtain rfl : n = "law" := by
      have : n ∈ [("law" : PySem.Str)] := hn
      simpa using this
    refine Classical.byContradiction fun no => ?_
    have L := look s.heap (fun b o e => by rw [hh]; exact e)
    have K := L.facts (x := 0) (dx := 0)
    have fl := law_full
    cases ed : fullTab "law" false with
    | none => rw [ed] at fl; cases fl
    | some d =>
      rw [ed] at fl
      have fh' := fh
      unfold factsH lawNameB at fh'
      simp only [Bool.and_eq_true] at fh'
      have nm := fh'.2
      have mem : ("law" : PySem.Str) ∈ gNames := List.contains_iff_mem.mp law_in
      have hv := List.map_inj_left.mp q4 _ mem
      split at nm
      case h_2 => cases nm
      rename_i a ha
      split at nm
      case h_2 => cases nm
      rename_i oc od fd sl hl
      simp only [Bool.and_eq_true] at nm
      rw [ha] at hv
      replace hv : viewF S a = textF false "law" := hv
      unfold viewF at hv
      rw [hl] at hv
      unfold textF at hv
      rw [ed, Option.map_some] at hv
      simp only [Option.some.injEq, Prod.mk.injEq] at hv
      obtain ⟨v1, v2, v3, v4, v5, v6, v7, v8⟩ := hv
      have gl : globalOf s.heap "law" = some (.ref a) := by
        have g : s.heap.Ns mainGlobals ((endHeap w.params S).nsMap mainGlobals) := K.g
        exact (Claim2Try.globalOf_of_ns g _).trans (mg_of L.X g (addrG_spec ha))
      replace fl : (match d.1.defaults, d.1.kwonlyargs, d.1.kw_defaults with | [], [], [] => true | _, _, _ => false) = true := fl
      have fl2 : d.1.defaults = [] ∧ d.1.kwonlyargs = [] ∧ d.1.kw_defaults = [] := by
        split at fl
        · rename_i a b c; exact ⟨a, b, c⟩
        · cases fl
      refine no ⟨a, _, fd, d.1, d.2.1, d.2.2, gl, L.X _ _ (lkS_K hl), rfl, law_def.trans ed, beq_str nm.1, beq_str nm.2, v3, v1, v2, v4, v6, v5, .inl ⟨fl2.1, v7⟩, [], ?_, .inl ⟨rfl, v8⟩⟩
      rw [fl2.2.1, fl2.2.2]; rfl
  refine ClaimW.callFrom_of_specN (c := LW.row.toRowW.claim) (tree := fun vs => do match ← nsGet mainNs LW.row.name with
      | some f => do ret (← PySem.call f vs)
      | none => unsupported "claim.caller:no-such-global") hz (by rw [hgens]; simp [leftWithCleanup]) fun args hpre hlay ord hord => ?_
  refine Classical.byContradiction fun no => ?_
  obtain ⟨⟨vs, s₁⟩, hlaid⟩ := Option.isSome_iff_exists.mp (layAllW_isSome (P := w.params) (ord := ord) (R := LW.row.toRowW.records) (cl := classAt s.heap) (fun c hc => (nomatch hc)) args LW.row.toRowW.args s (pre_splitW hpre).1)
  have keeps := layAllW_keeps _ _ _ hlaid
  have hal := layAllW_rest _ _ _ hlaid
  obtain ⟨as, hrd, hin, hold⟩ := reads_layAllW hord _ _ _ hlaid hlay s₁.heap (fun _ _ e => e)
  have hi := ident_freeW hu ha hap
  have L := look s₁.heap (fun b o e => keeps b o (by rw [hh]; exact e))
  have K := fun x dx => L.facts (x := x) (dx := dx)
  obtain ⟨d, rest, p1, p2, p3, p4, hd, hp, hb, ho, hs, hr⟩ : ∃ d rest p1 p2 p3 p4, defOfS "law" prg.main.body = some d ∧ d.params = [("script" : PySem.Str)] ∧ d.body = .Assign [.Name "one" p1] (.Call (.Name "NorwegianStemmer" p2) [] [] p3) p4 :: rest ∧ isLoc d.names "one" = true ∧ isGlob d.names "NorwegianStemmer" = true ∧ d = lawDef := by
    have q := law_head
    cases e : defOfS "law" prg.main.body with
    | none => rw [e] at q; cases q
    | some d =>
      rw [e] at q
      obtain ⟨rest, p1, p2, p3, p4, hp, hb, h3, h4⟩ := lawHead_shape q
      exact ⟨d, rest, p1, p2, p3, p4, rfl, hp, hb, h3, h4, by unfold lawDef; rw [e]; rfl⟩
  obtain ⟨di, hdi⟩ := Option.isSome_iff_exists.mp init_there
  obtain ⟨sh, hpre2⟩ := pre_splitW hpre
  obtain ⟨dd, rr, rfl, sh1, sh2⟩ := hasAllW_cons sh
  have : rr = [] := by cases rr with | nil => rfl | cons _ _ => simp [WShape.hasAll] at sh2
  subst this
  have dl : ∃ ds, dd = .list ds := by
    cases dd with
    | list ds => exact ⟨ds, rfl⟩
    | _ => exact absurd sh1 (by simp [WShape.has, WShape.arms])
  obtain ⟨ds, rfl⟩ := dl
  have sh3 : WShape.hasItems LW.row.toRowW.records ds .int = true := by
    simpa [WShape.has, WShape.arms] using sh1
  have len : ds.length ≤ 63 := by
    have e : LW.row.toRowW.pre = .and (.not (.lt (.lit (.int 63)) (.len (.arg 0)))) (.lit (.bool true)) := rfl
    rw [e] at hpre2
    simp only [WTm.holds, WTm.value, List.getElem?_cons_zero, less?, Option.map_some] at hpre2
    refine Classical.byContradiction fun n => ?_
    have : decide ((63 : Int) < (ds.length : Int)) = true := decide_eq_true (by omega)
    have l : Num.less? (.int 63) (.int (ds.length : Int)) = some (decide ((63 : Int) < (ds.length : Int))) := rfl
    rw [l, this] at hpre2
    simp at hpre2
  cases hrd with
  | cons r rs =>
  cases rs with
  | nil =>
  cases r with
  | list ga gc gd gr =>
  rename_i a o vs n as'
  have il1 := (all_ints (F := FF w S s₁.heap 0 0) gr sh3).1
  have vr : ∀ x dx, VR (FF w S s₁.heap x dx) s₁.heap (.ref a) (.list ((intL ds).map MV.int)) := fun x dx => by
    obtain ⟨l1, q⟩ := all_ints (F := FF w S s₁.heap x dx) gr sh3
    exact .list a vs.toList _ ⟨o, ga, gc, n, gd⟩ (by rw [List.length_map, l1]; exact Nat.le_trans len (by decide)) q
  obtain ⟨φ0, σ', init, run⟩ := P (intL ds) (by omega)
  have lk := fun x dx => L.labs (x := x) (dx := dx)
  have fb' := L.fb
  unfold factsB at fb'
  simp only [Bool.and_eq_true] at fb'
  obtain ⟨fa, fcall⟩ := law_ok (F := FF w S s₁.heap 0 0) (T := TT) (lab := labOf (KS S)) (s := { s₁ with gens := #[] }) K lk (fun x dx => compOk (K x dx)) fb'.1.1.1.2 fb'.1.1.2 hd hdi hp hb ho hs vr (l := 9) (by decide) (by decide) init
    (by rw [hr] at hb ⊢; rw [hb] at run; exact run) rfl
  refine no ⟨_, s₁, hlaid, ?_⟩
  have g := (Heap.Ns.of_isNs (by
    have := tb
    unfold topB at this
    simp only [Bool.and_eq_true] at this
    exact this.1.1.1.1.1.1.1.2 : (endHeap w.params S).isNs mainGlobals = true)).keeps L.keep
  refine wpAny_bind (wpAny_nsGet (s := { s₁ with gens := #[] }) g ?_)
  have fa' : (endHeap w.params S).nsMap mainGlobals "law" = some (.ref fa) := fcall.1
  show wpAny _ _ (match (endHeap w.params S).nsMap mainGlobals "law" with | some f => (do ret (← PySem.call f [.ref a])) | none => unsupported "claim.caller:no-such-global") _ _ _
  rw [fa']
  refine wpAny_bind (fcall.2 _ _ fun s2 st sm => wpAny_pure ⟨_, rfl, ?_⟩)
  have gw : GoodW LW.row.toRowW.claim (classAt s.heap) (ExcName.means s.heap) [.list ds] { s₁ with gens := #[] } (.ok (.ret (.bool true))) s2 :=
    ⟨.inl ⟨.bool true, .bool true, [], rfl, fun _ => rfl, .bool true, ?_, fun _ => ⟨List.nodup_nil, fun _ h => (nomatch h)⟩⟩, st, sm.2, sm.1⟩
  · have z := gw.endsN (c := LW.row.toRowW.claim) (vs := [.ref a]) hsame rfl hi (ReadsAllW.cons (ReadsW.list ga gc gd gr) .nil) hold hal.2.2.1
    exact ⟨z.1, z.2.1, z.2.2, fun q => by cases q⟩
  · show (WShape.has LW.row.toRowW.records (.bool true) .bool && WTm.holds LW.row.toRowW.records (.eq .res (.lit (.bool true))) _) = true
    have e : same (.bool true) (.bool true) = true := by decide +kernel
    simp [WShape.has, WShape.arms, WTm.holds, WTm.value, e]
end Nor
end

section
open PySem PySem.W
set_option Elab.async false
set_option maxRecDepth 100000
namespace Nor

section
variable {R : Type}
noncomputable abbrev KV (R : Type) := MV → Fld → Option R

theorem cond_bind {α β : Type} (b : Bool) (x : Option α) (f : α → Option β) : (bif b then x else Option.none).bind f = bif b then x.bind f else Option.none := by cases b <;> rfl
theorem cond_bind' {α β : Type} (b : Bool) (x : Option α) (f : α → Option β) : (bif b then Option.none else x).bind f = bif b then Option.none else x.bind f := by cases b <;> rfl
theorem cond_bind2 {α β : Type} (b : Bool) (x y : Option α) (f : α → Option β) : (bif b then x else y).bind f = bif b then x.bind f else y.bind f := by cases b <;> rfl
noncomputable def binK (op : Operator) (a b : MV) (k : MV → Option R) : Option R := (binV op a b).bind fun r => bif r.1 then k r.2 else Option.none
theorem binK_eq (op : Operator) (a b : MV) (k : MV → Option R) : binK op a b k = (binMV op a b).bind k := by
  unfold binK binMV
  rw [Option.bind_assoc]
  congr 1; funext r
  rw [cond_bind]; rfl

noncomputable def idxK (o i : MV) (k : MV → Option R) : Option R := match i with
  | .int i => (match o with
    | .str s => bif decide (0 ≤ i) && decide (i < s.length) then k (.str ⟨#[s.cps.toList.getD i.toNat 0]⟩) else Option.none
    | .list l => bif decide (0 ≤ i) && decide (i < l.length) then (l[i.toNat]?).bind k else Option.none
    | _ => Option.none)
  | _ => Option.none
theorem idxK_eq (o i : MV) (k : MV → Option R) : idxK o i k = (idxMV o i).bind k := by
  cases i with
  | int i => cases o with
    | str s => refine Eq.trans ?_ (cond_bind _ _ _).symm; rfl
    | list l => refine Eq.trans ?_ (cond_bind _ _ _).symm; rfl
    | _ => rfl
  | _ => rfl
noncomputable def bndK (x : Option MV) (k : Option Nat → Option R) : Option R := match x with
  | Option.none => k Option.none
  | some (.int i) => bif decide (0 ≤ i) && fits i then k (some i.toNat) else Option.none
  | _ => Option.none
theorem bndK_eq (x : Option MV) (k : Option Nat → Option R) : bndK x k = (bnd x).bind k := by
  unfold bndK bnd
  split <;> simp only [cond_bind, Option.bind_some, Option.bind_none]
noncomputable def sliceK (o : MV) (a b : Option MV) (k : MV → Option R) : Option R := bndK a fun a => bndK b fun b => match o with
  | .str s => k (.str ⟨(cut Nat s.cps.toList (a.getD 0) b).toArray⟩)
  | .list l => k (.list (cut MV l (a.getD 0) b))
  | _ => Option.none
theorem sliceK_eq (o : MV) (a b : Option MV) (k : MV → Option R) : sliceK o a b k = (sliceMV o a b).bind k := by
  unfold sliceK sliceMV
  rw [bndK_eq, Option.bind_assoc]
  congr 1; funext a
  rw [bndK_eq, Option.bind_assoc]
  congr 1; funext b
  cases o <;> rfl
noncomputable def blt1K (f : PySem.Str) (x : MV) (k : MV → Option R) : Option R := match x with
  | .str s => bif f == "len" then k (.int s.length) else bif f == "ord" then bif s.length == 1 then k (.int (s.cps.toList.getD 0 0 : Nat)) else Option.none else Option.none
  | .list l => bif f == "len" then k (.int l.length) else Option.none
  | .int i => bif f == "chr" then bif decide (0 ≤ i) && decide (i ≤ 1000000) then k (.str ⟨#[i.toNat]⟩) else Option.none else bif f == "range" then bif fits i then k (.range 0 i 1) else Option.none else Option.none
  | _ => Option.none
noncomputable def blt2K (f : PySem.Str) (k : MV → Option R) (a b : Int) : Option R := bif f == "min" then k (.int (if b < a then b else a)) else bif f == "max" then k (.int (if b > a then b else a)) else
  bif f == "range" then bif fits a && fits b then k (.range a b 1) else Option.none else Option.none
noncomputable def blt3K (f : PySem.Str) (k : MV → Option R) (a b c : Int) : Option R := bif f == "range" then bif fits a && fits b && c == -1 then k (.range a b c) else Option.none else Option.none
noncomputable def bltK (f : PySem.Str) (as : List MV) (k : MV → Option R) : Option R := match as with
  | [] => Option.none
  | x :: r => (match r with
    | [] => blt1K f x k
    | y :: r => (match r with
      | [] => int2 x y (blt2K f k)
      | z :: r => (match r with
        | [] => int2 x y fun a b => int1 z (blt3K f k a b)
        | _ :: _ => Option.none)))
theorem cond_and {α : Type} (a b : Bool) (x : Option α) : (bif a then bif b then x else Option.none else Option.none) = bif a && b then x else Option.none := by cases a <;> rfl
theorem int2_bind {S : Type} (x y : MV) (f : Int → Int → Option S) (k : S → Option R) : (int2 x y f).bind k = int2 x y fun a b => (f a b).bind k := by
  cases x with
  | int a => cases y <;> rfl
  | _ => rfl
theorem int1_bind {S : Type} (x : MV) (f : Int → Option S) (k : S → Option R) : (int1 x f).bind k = int1 x fun a => (f a).bind k := by
  cases x <;> rfl
theorem blt1K_eq (f : PySem.Str) (x : MV) (k : MV → Option R) : blt1K f x k = (blt1 f x).bind k := by
  have ne : (("chr" : PySem.Str) == "range") = false := by decide +kernel
  cases x with
  | str s =>
    refine Eq.trans ?_ (cond_bind2 _ _ _ _).symm
    rw [cond_bind]
    unfold blt1K
    dsimp only
    rw [cond_and]; rfl
  | list l => refine Eq.trans ?_ (cond_bind _ _ _).symm; rfl
  | int i =>
    refine Eq.trans ?_ (cond_bind2 _ _ _ _).symm
    rw [cond_bind]
    unfold blt1K
    dsimp only
    rw [cond_and]
    cases q : f == "chr" with
    | true => rw [beq_str q, ne, Bool.true_and]; rfl
    | false => rw [Bool.false_and, Bool.false_and]; rfl
  | _ => rfl
theorem bltK_eq (f : PySem.Str) (as : List MV) (k : MV → Option R) : bltK f as k = (blt f as).bind k := by
  rcases as with _ | ⟨a, _ | ⟨b, _ | ⟨d, _ | _⟩⟩⟩
  · rfl
  · exact blt1K_eq f a k
  · refine Eq.trans ?_ (int2_bind _ _ _ _).symm
    show int2 a b (blt2K f k) = _
    congr 1; funext i j
    unfold blt2K blt2
    rw [cond_bind2, cond_bind2, cond_bind, cond_and, Bool.and_assoc]; rfl
  · refine Eq.trans ?_ (int2_bind _ _ _ _).symm
    show (int2 a b fun i j => int1 d (blt3K f k i j)) = _
    congr 1; funext i j
    rw [int1_bind]
    congr 1; funext m
    unfold blt3K blt3
    rw [cond_bind, cond_and, Bool.and_assoc, Bool.and_assoc, Bool.and_assoc]; rfl
  · rfl

section
variable (T : Tab) (Φ : CallT)
noncomputable def evLK (ev : Fld → Expr → KV R → Option R) : Fld → List Expr → (List MV → Fld → Option R) → Option R
  | φ, [], k => k [] φ
  | φ, e :: r, k => ev φ e fun v φ' => evLK ev φ' r fun vs φ'' => k (v :: vs) φ''
noncomputable def evOK (ev : Fld → Expr → KV R → Option R) (φ : Fld) (x : Option Expr) (k : Option MV → Fld → Option R) : Option R := match x with
  | Option.none => k Option.none φ
  | some e => ev φ e fun v φ' => k (some v) φ'

noncomputable def evKV (ns : List (PySem.Str × NameKind)) (ρ : Fld) (ev : Fld → Expr → KV R → Option R) (φ : Fld) (k : KV R) (vw : EV) : Option R := match vw with
  | .const c => (constMV c).bind fun v => k v φ
  | .name x => bif isLoc ns x then (get x ρ).bind fun v => k v φ else bif isGlob ns x then (T.glob x).bind fun v => k v φ else Option.none
  | .attr c a =>
    bif isLoc ns c then (get c ρ).bind fun o => match o with
        | .self => bif fieldNames.contains a then (get a φ).bind fun v => k v φ else Option.none
        | .am s i r => (amAttr s i r a).bind fun v => k v φ
        | _ => Option.none
    else bif isGlob ns c && c == "NorwegianStemmer" then (T.cls a).bind fun v => k v φ else Option.none
  | .cmp l op r => bif behindInMarks op r then Option.none else ev φ l fun a φ1 => ev φ1 r fun b φ2 => (cmpMV op a b).bind fun v => k v φ2
  | .bool op x y => ev φ x fun a φ1 => (truth a).bind fun b => bif (match op with | .And => b | .Or => !b) then ev φ1 y k else k a φ1
  | .not x => ev φ x fun a φ1 => (truth a).bind fun b => k (.bool (!b)) φ1
  | .neg x => ev φ x fun a φ1 => match a with
      | .int i => k (.int (-i)) φ1
      | _ => Option.none
  | .bin l op r => ev φ l fun a φ1 => ev φ1 r fun b φ2 => binK op a b fun v => k v φ2
  | .ife t b o => bif !simpleT t then Option.none else ev φ t fun a φ1 => (truth a).bind fun c => bif c then ev φ1 b k else ev φ1 o k
  | .slice v lo hi => ev φ v fun o φ1 => bif !isNameE v && !isStrV o then Option.none else evOK (ev) φ1 lo fun a φ2 =>
      evOK (ev) φ2 hi fun b φ3 => sliceK o a b fun v => k v φ3
  | .sub v i => ev φ v fun o φ1 => bif !isNameE v && !isStrV o then Option.none else ev φ1 i fun j φ2 => idxK o j fun v => k v φ2
  | .comp x y g sc => bif x == y && isGlob ns g && compFine x sc then (T.glob g).bind fun v => match v with
      | .str s => k (.list (chars s)) φ
      | _ => Option.none
    else Option.none
  | .list es => bif !Nat.ble es.length 1000 then Option.none else evLK (ev) φ es fun vs φ1 => k (.list vs) φ1
  | .callN f as => bif isGlob ns f && Nat.ble as.length 8 then
      evLK (ev) φ as fun vs φ1 => bif bltNames.contains f then bltK f vs (fun v => k v φ1) else bif notSelf vs then (Φ f vs φ1).bind fun r => k r.1 r.2 else Option.none
    else Option.none
  | .callM o m ap as p => bif ap.endLine == p.line && Nat.ble as.length 8 && isNameE o then
      ev φ o fun v φ1 => evLK (ev) φ1 as fun vs φ2 => match v with
        | .self => bif (get m φ1).isNone then (Φ m (.self :: vs) φ2).bind fun r => k r.1 r.2 else Option.none
        | .str s => (strMeth s m vs).bind fun v => k v φ2
        | _ => Option.none
    else Option.none
  | .oth => Option.none
noncomputable def evK (ns : List (PySem.Str × NameKind)) (ρ : Fld) : Nat → Fld → Expr → KV R → Option R
  | 0, _, _, _ => Option.none
  | n + 1, φ, e, k => evKV T Φ ns ρ (evK ns ρ n) φ k (viewE e)

theorem evLK_eq {ev : Fld → Expr → Option (MV × Fld)} {evk : Fld → Expr → KV R → Option R} (h : ∀ φ e k, evk φ e k = (ev φ e).bind fun r => k r.1 r.2) : ∀ (es : List Expr) (φ : Fld) (k : List MV → Fld → Option R), evLK evk φ es k = (evL ev φ es).bind fun r => k r.1 r.2
  | [], φ, k => rfl
  | e :: r, φ, k => by
    unfold evLK evL
    rw [h, Option.bind_assoc]
    congr 1; funext x
    rw [evLK_eq h r, Option.bind_map]
    rfl
theorem evOK_eq {ev : Fld → Expr → Option (MV × Fld)} {evk : Fld → Expr → KV R → Option R} (h : ∀ φ e k, evk φ e k = (ev φ e).bind fun r => k r.1 r.2) (φ : Fld) (x : Option Expr) (k : Option MV → Fld → Option R) : evOK evk φ x k = (evO ev φ x).bind fun r => k r.1 r.2 := by
  cases x with
  | none => rfl
  | some e =>
    show evk φ e _ = (Option.map _ (ev φ e)).bind _
    rw [h, Option.bind_map]; rfl

theorem evKV_eq (ns : List (PySem.Str × NameKind)) (ρ : Fld) {ev : Fld → Expr → Option (MV × Fld)} {evk : Fld → Expr → KV R → Option R} (ih : ∀ φ e k, evk φ e k = (ev φ e).bind fun r => k r.1 r.2) (φ : Fld) (k : KV R) (vw : EV) :
    evKV T Φ ns ρ evk φ k vw = (evV T Φ ns ρ ev φ vw).bind fun r => k r.1 r.2 := by
  unfold evKV evV
  cases vw with
  | const c => dsimp only; rw [Option.bind_map]; rfl
  | name x => dsimp only; rw [cond_bind2, cond_bind, Option.bind_map, Option.bind_map]; rfl
  | attr c a =>
    dsimp only
    rw [cond_bind2, cond_bind, Option.bind_map, Option.bind_assoc]
    congr 2; funext o
    rw [Option.bind_map]
    cases o with
    | self => refine Eq.trans ?_ (cond_bind _ _ _).symm; rfl
    | _ => rfl
  | cmp l op r =>
    dsimp only
    rw [cond_bind', ih, Option.bind_assoc]
    congr 2; funext x
    rw [ih, Option.bind_assoc]
    congr 1; funext y
    rw [Option.bind_map]; rfl
  | bool op x y =>
    dsimp only
    rw [ih, Option.bind_assoc]
    congr 1; funext x
    rw [Option.bind_assoc]
    congr 1; funext b
    rw [cond_bind2, ih]; rfl
  | not x =>
    dsimp only
    rw [ih, Option.bind_assoc]
    congr 1; funext x
    rw [Option.bind_map]; rfl
  | neg x =>
    dsimp only
    rw [ih, Option.bind_assoc]
    congr 1; funext x
    obtain ⟨a, φ1⟩ := x
    cases a <;> rfl
  | bin l op r =>
    dsimp only
    rw [ih, Option.bind_assoc]
    congr 1; funext x
    rw [ih, Option.bind_assoc]
    congr 1; funext y
    rw [binK_eq, Option.bind_map]; rfl
  | ife t b o =>
    dsimp only
    rw [cond_bind', ih, Option.bind_assoc]
    congr 2; funext x
    rw [Option.bind_assoc]
    congr 1; funext b
    rw [cond_bind2, ih, ih]
  | slice v lo hi =>
    dsimp only
    rw [ih, Option.bind_assoc]
    congr 1; funext x
    rw [cond_bind', evOK_eq ih, Option.bind_assoc]
    congr 2; funext y
    rw [evOK_eq ih, Option.bind_assoc]
    congr 1; funext z
    rw [sliceK_eq, Option.bind_map]; rfl
  | sub v i =>
    dsimp only
    rw [ih, Option.bind_assoc]
    congr 1; funext x
    rw [cond_bind', ih, Option.bind_assoc]
    congr 2; funext y
    rw [idxK_eq, Option.bind_map]; rfl
  | comp x y g sc =>
    dsimp only
    rw [cond_bind, Option.bind_assoc]
    congr 2; funext v
    cases v <;> rfl
  | list es =>
    dsimp only
    rw [cond_bind', evLK_eq ih, Option.bind_map]
    rfl
  | callN f as =>
    dsimp only
    rw [cond_bind, evLK_eq ih, Option.bind_assoc]
    congr 2; funext x
    rw [cond_bind2, cond_bind, bltK_eq, Option.bind_map]; rfl
  | callM o m ap as p =>
    dsimp only
    rw [cond_bind, ih, Option.bind_assoc]
    congr 2; funext x
    rw [evLK_eq ih, Option.bind_assoc]
    congr 1; funext y
    obtain ⟨v, φ1⟩ := x
    cases v with
    | self => refine Eq.trans ?_ (cond_bind _ _ _).symm; rfl
    | str s => dsimp only; rw [Option.bind_map]; rfl
    | _ => rfl
  | oth => rfl
theorem evK_eq (ns : List (PySem.Str × NameKind)) (ρ : Fld) : ∀ (n : Nat) (φ : Fld) (e : Expr) (k : KV R), evK T Φ ns ρ n φ e k = (evE T Φ ns ρ n φ e).bind fun r => k r.1 r.2
  | 0, _, _, _ => rfl
  | n + 1, φ, e, k => evKV_eq T Φ ns ρ (evK_eq ns ρ n) φ k (viewE e)
end
end
end Nor
end

section
open PySem PySem.W
set_option Elab.async false
set_option maxRecDepth 100000
namespace Nor

section
variable {R : Type} (T : Tab) (Φ : CallT)
noncomputable abbrev KB (R : Type) := Bool → Fld → Option R
noncomputable def evTsK (ev : Fld → Expr → KB R → Option R) (op : PySem.BoolOp) : Fld → List Expr → KB R → Option R
  | φ, [], k => k (match op with | .And => true | .Or => false) φ
  | φ, e :: r, k => ev φ e fun b φ' => bif (match op with | .And => b | .Or => !b) then evTsK ev op φ' r k else k b φ'
noncomputable def evTK (ns : List (PySem.Str × NameKind)) (ρ : Fld) : Nat → Fld → Expr → KB R → Option R
  | 0, _, _, _ => Option.none
  | n + 1, φ, e, k => match e with
    | .BoolOp op es _ => evTsK (evTK ns ρ n) op φ es k
    | .UnaryOp .Not x _ => evTK ns ρ n φ x fun b φ' => k (!b) φ'
    | e => bif simpleT e then evK T Φ ns ρ depth φ e fun v φ' => (truth v).bind fun b => k b φ' else Option.none

theorem evTsK_eq {ev : Fld → Expr → Option (Bool × Fld)} {evk : Fld → Expr → KB R → Option R} (h : ∀ φ e k, evk φ e k = (ev φ e).bind fun r => k r.1 r.2) (op : PySem.BoolOp) : ∀ (es : List Expr) (φ : Fld) (k : KB R), evTsK evk op φ es k = (evTs ev op φ es).bind fun r => k r.1 r.2
  | [], φ, k => rfl
  | e :: r, φ, k => by
    unfold evTsK evTs
    rw [h, Option.bind_assoc]
    congr 1; funext x
    rw [cond_bind2, evTsK_eq h op r]
    rfl
theorem evTK_eq (ns : List (PySem.Str × NameKind)) (ρ : Fld) : ∀ (n : Nat) (φ : Fld) (e : Expr) (k : KB R), evTK T Φ ns ρ n φ e k = (evT T Φ ns ρ n φ e).bind fun r => k r.1 r.2
  | 0, _, _, _ => rfl
  | n + 1, φ, e, k => by
    have ih := evTK_eq ns ρ n
    unfold evTK evT
    dsimp only
    split
    · rw [evTsK_eq ih]
    · rw [ih, Option.bind_map]; rfl
    · first
      | (rw [cond_bind, evK_eq, Option.bind_assoc]
         congr 2; funext x
         rw [Option.bind_map]; rfl)
      | (symm
         split
         · exfalso; solve_by_elim
         · exfalso; solve_by_elim
         · symm
           rw [cond_bind, evK_eq, Option.bind_assoc]
           congr 2; funext x
           rw [Option.bind_map]; rfl)

noncomputable def whileK (test : St → (Bool → St → Option R) → Option R) (body : St → (St → Option R) → (St → Option R) → (MV → St → Option R) → (PySem.Str → St → Option R) → Option R) :
    Nat → St → (St → Option R) → (MV → St → Option R) → (PySem.Str → St → Option R) → Option R
  | 0, _, _, _, _ => Option.none
  | N + 1, σ, kn, kr, ke => test σ fun b σ1 => bif b then body σ1 (fun σ2 => whileK test body N σ2 kn kr ke) kn kr ke else kn σ1
noncomputable def forK (x : PySem.Str) (body : St → (St → Option R) → (St → Option R) → (MV → St → Option R) → (PySem.Str → St → Option R) → Option R) :
    List MV → St → (St → Option R) → (MV → St → Option R) → Option R
  | [], σ, kn, _ => kn σ
  | v :: r, σ, kn, kr => body ⟨put x v σ.ρ, σ.φ⟩ (fun σ2 => forK x body r σ2 kn kr) kn kr (fun _ _ => Option.none)
noncomputable def augK (op : Operator) (u v : MV) (k : MV → Option R) : Option R := match op with
  | .Add => int2 u v fun x y => k (.int (x + y))
  | .Sub => int2 u v fun x y => k (.int (x - y))
  | _ => Option.none
theorem augK_eq (op : Operator) (u v : MV) (k : MV → Option R) : augK op u v k = (augMV op u v).bind k := by
  cases op with
  | Add => refine Eq.trans ?_ (int2_bind _ _ _ _).symm; rfl
  | Sub => refine Eq.trans ?_ (int2_bind _ _ _ _).symm; rfl
  | _ => rfl
noncomputable def itemsK (v : MV) (k : List MV → Option R) : Option R := match v with
  | .list l => k l
  | .range a b c => bif fits a && fits b && (c == 1 || c == -1) then k (rangeL a b c) else Option.none
  | _ => Option.none
theorem itemsK_eq (v : MV) (k : List MV → Option R) : itemsK v k = (itemsOf v).bind k := by
  cases v with
  | range a b c => refine Eq.trans ?_ (cond_bind _ _ _).symm; rfl
  | _ => rfl
noncomputable def putK (a : PySem.Str) (v : MV) (φ : Fld) (k : Fld → Option R) : Option R := bif fieldNames.contains a then k (put a v φ) else Option.none
theorem putK_eq (a : PySem.Str) (v : MV) (φ : Fld) (k : Fld → Option R) : putK a v φ k = (putF a v φ).bind k := by
  unfold putK putF; rw [cond_bind]; rfl

/-- one statement, by its view -/
noncomputable def exKV (tn : Nat) (ns : List (PySem.Str × NameKind)) (ex : St → List Stmt → (St → Option R) → (St → Option R) → (MV → St → Option R) → (PySem.Str → St → Option R) → Option R)
    (σ : St) (kn kb : St → Option R) (kr : MV → St → Option R) (ke : PySem.Str → St → Option R) (vw : SV) : Option R := match vw with
  | .pass => kn σ
  | .brk => kb σ
  | .retN => kr .none σ
  | .ret e => evK T Φ ns σ.ρ depth σ.φ e fun v φ => kr v ⟨σ.ρ, φ⟩
  | .exp e => bif isComp e then Option.none else evK T Φ ns σ.ρ depth σ.φ e fun v φ => bif droppable v then kn ⟨σ.ρ, φ⟩ else Option.none
  | .asgN x e => bif isLoc ns x && !isComp e then evK T Φ ns σ.ρ depth σ.φ e fun v φ => kn ⟨put x v σ.ρ, φ⟩ else Option.none
  | .asgA c a e => bif isLoc ns c && !isComp e then evK T Φ ns σ.ρ depth σ.φ e fun v φ => (get c σ.ρ).bind fun o => match o with
      | .self => putK a v φ fun φ' => kn ⟨σ.ρ, φ'⟩
      | _ => Option.none
    else Option.none
  | .augN x op e => bif isLoc ns x then (get x σ.ρ).bind fun u => evK T Φ ns σ.ρ depth σ.φ e fun v φ => augK op u v fun r => kn ⟨put x r σ.ρ, φ⟩ else Option.none
  | .augA c a op e => bif isLoc ns c then (get c σ.ρ).bind fun o => match o with
      | .self => (get a σ.φ).bind fun u => evK T Φ ns σ.ρ depth σ.φ e fun v φ => augK op u v fun r => putK a r φ fun φ' => kn ⟨σ.ρ, φ'⟩
      | _ => Option.none
    else Option.none
  | .ifs t b o => evTK T Φ ns σ.ρ depth σ.φ t fun c φ => bif c then ex ⟨σ.ρ, φ⟩ b kn kb kr ke else ex ⟨σ.ρ, φ⟩ o kn kb kr ke
  | .whl t b => whileK (fun σ k => evTK T Φ ns σ.ρ depth σ.φ t fun c φ => k c ⟨σ.ρ, φ⟩) (fun σ kn kb kr ke => ex σ b kn kb kr ke) tn σ kn kr ke
  | .fors x it b => bif isLoc ns x then evK T Φ ns σ.ρ depth σ.φ it fun v φ => itemsK v fun l => forK x (fun σ kn kb kr ke => ex σ b kn kb kr ke) l ⟨σ.ρ, φ⟩ kn kr else Option.none
  | .rais c => bif isGlob ns c && labN.contains c then ke c σ else Option.none
  | .tri b c => bif isGlob ns c && labN.contains c then ex σ b kn kb kr (fun c' σ' => bif c' == c then kn σ' else ke c' σ') else Option.none
  | .asrt t => evTK T Φ ns σ.ρ depth σ.φ t fun c φ => bif c then kn ⟨σ.ρ, φ⟩ else Option.none
  | .oth => Option.none
noncomputable def exK (tn : Nat) (ns : List (PySem.Str × NameKind)) : Nat → St → List Stmt → (St → Option R) → (St → Option R) → (MV → St → Option R) → (PySem.Str → St → Option R) → Option R
  | 0, _, _, _, _, _, _ => Option.none
  | _ + 1, σ, [], kn, _, _, _ => kn σ
  | n + 1, σ, st :: rest, kn, kb, kr, ke => exKV T Φ tn ns (exK tn ns n) σ (fun σ' => exK tn ns n σ' rest kn kb kr ke) kb kr ke (viewS st)

noncomputable def outK (kn kb : St → Option R) (kr : MV → St → Option R) (ke : PySem.Str → St → Option R) (r : Option (Out × St)) : Option R := r.bind fun x => match x.1 with
  | .next => kn x.2
  | .brk => kb x.2
  | .ret v => kr v x.2
  | .exc c => ke c x.2

theorem whileK_eq {test : St → Option (Bool × St)} {body : St → Option (Out × St)} {tk : St → (Bool → St → Option R) → Option R} {bk : St → (St → Option R) → (St → Option R) → (MV → St → Option R) → (PySem.Str → St → Option R) → Option R}
    (ht : ∀ σ k, tk σ k = (test σ).bind fun r => k r.1 r.2) (hb : ∀ σ kn kb kr ke, bk σ kn kb kr ke = outK kn kb kr ke (body σ)) (kn : St → Option R) (kb : St → Option R) (kr : MV → St → Option R) (ke : PySem.Str → St → Option R) :
    ∀ (N : Nat) (σ : St), whileK tk bk N σ kn kr ke = outK kn kb kr ke (whileN test body N σ)
  | 0, σ => rfl
  | N + 1, σ => by
    unfold whileK whileN outK
    rw [ht, Option.bind_assoc]
    congr 1; funext x
    dsimp only
    rw [cond_bind2, hb]
    unfold outK
    rw [Option.bind_assoc]
    congr 2; funext y
    obtain ⟨o, σ2⟩ := y
    cases o with
    | next => exact whileK_eq ht hb kn kb kr ke N σ2
    | _ => rfl
theorem forK_eq {x : PySem.Str} {body : St → Option (Out × St)} {bk : St → (St → Option R) → (St → Option R) → (MV → St → Option R) → (PySem.Str → St → Option R) → Option R}
    (hb : ∀ σ kn kb kr ke, bk σ kn kb kr ke = outK kn kb kr ke (body σ)) (kn : St → Option R) (kb : St → Option R) (kr : MV → St → Option R) (ke : PySem.Str → St → Option R) :
    ∀ (l : List MV) (σ : St), forK x bk l σ kn kr = outK kn kb kr ke (forL x body l σ)
  | [], σ => rfl
  | v :: r, σ => by
    unfold forK forL outK
    rw [hb, Option.bind_assoc]
    unfold outK
    congr 1; funext y
    obtain ⟨o, σ2⟩ := y
    cases o with
    | next => exact forK_eq hb kn kb kr ke r σ2
    | _ => rfl

theorem exKV_eq (ns : List (PySem.Str × NameKind)) {ex : St → List Stmt → Option (Out × St)} {exk : St → List Stmt → (St → Option R) → (St → Option R) → (MV → St → Option R) → (PySem.Str → St → Option R) → Option R}
    (ih : ∀ σ b kn kb kr ke, exk σ b kn kb kr ke = outK kn kb kr ke (ex σ b)) (σ : St) (kn kb : St → Option R) (kr : MV → St → Option R) (ke : PySem.Str → St → Option R) (vw : SV) :
    exKV T Φ turns ns exk σ kn kb kr ke vw = outK kn kb kr ke (exV T Φ ns ex σ vw) := by
  unfold exKV exV
  cases vw with
  | pass => rfl
  | brk => rfl
  | retN => rfl
  | ret e => dsimp only; rw [evK_eq]; unfold outK; rw [Option.bind_map]; rfl
  | exp e =>
    dsimp only
    rw [evK_eq]; unfold outK; rw [cond_bind', Option.bind_assoc]
    congr 2; funext x
    rw [cond_bind]; rfl
  | asgN x e => dsimp only; rw [evK_eq]; unfold outK; rw [cond_bind, Option.bind_map]; rfl
  | asgA c a e =>
    dsimp only
    rw [evK_eq]; unfold outK; rw [cond_bind, Option.bind_assoc]
    congr 2; funext x
    rw [Option.bind_assoc]
    congr 1; funext o
    cases o with
    | self => dsimp only; rw [putK_eq, Option.bind_map]; rfl
    | _ => rfl
  | augN x op e =>
    dsimp only
    unfold outK; rw [cond_bind, Option.bind_assoc]
    congr 2; funext u
    rw [evK_eq, Option.bind_assoc]
    congr 1; funext x
    rw [augK_eq, Option.bind_map]; rfl
  | augA c a op e =>
    dsimp only
    unfold outK; rw [cond_bind, Option.bind_assoc]
    congr 2; funext o
    cases o with
    | self =>
      dsimp only
      rw [Option.bind_assoc]
      congr 1; funext u
      rw [evK_eq, Option.bind_assoc]
      congr 1; funext x
      rw [augK_eq, Option.bind_assoc]
      congr 1; funext r
      rw [putK_eq, Option.bind_map]; rfl
    | _ => rfl
  | ifs t b o =>
    dsimp only
    rw [evTK_eq]; unfold outK; rw [Option.bind_assoc]
    congr 1; funext x
    rw [cond_bind2, ih, ih]; rfl
  | whl t b =>
    exact whileK_eq (tk := fun σ k => evTK T Φ ns σ.ρ depth σ.φ t fun c φ => k c ⟨σ.ρ, φ⟩) (bk := fun σ kn kb kr ke => exk σ b kn kb kr ke) (test := fun σ => (evT T Φ ns σ.ρ depth σ.φ t).map fun (c, φ) => (c, ⟨σ.ρ, φ⟩)) (body := fun σ => ex σ b) (fun σ k => by rw [evTK_eq, Option.bind_map]; rfl) (fun σ kn kb kr ke => ih σ b kn kb kr ke) _ kb kr ke turns σ
  | fors xx it b =>
    dsimp only
    unfold outK; rw [cond_bind, evK_eq, Option.bind_assoc]
    congr 2; funext x
    rw [itemsK_eq, Option.bind_assoc]
    congr 1; funext l
    exact forK_eq (bk := fun σ kn kb kr ke => exk σ b kn kb kr ke) (body := fun σ => ex σ b) (fun σ kn kb kr ke => ih σ b kn kb kr ke) _ kb kr ke _ _
  | rais c => dsimp only; unfold outK; rw [cond_bind]; rfl
  | tri b c =>
    dsimp only
    unfold outK; rw [cond_bind, ih, Option.bind_map]
    unfold outK
    congr 2; funext x
    obtain ⟨o, σ'⟩ := x
    cases o with
    | exc c' =>
      dsimp only [Function.comp]
      cases c' == c <;> rfl
    | _ => rfl
  | asrt t =>
    dsimp only
    rw [evTK_eq]; unfold outK; rw [Option.bind_assoc]
    congr 1; funext x
    rw [cond_bind]; rfl
  | oth => rfl
theorem exK_eq (ns : List (PySem.Str × NameKind)) : ∀ (n : Nat) (b : List Stmt) (σ : St) (kn kb : St → Option R) (kr : MV → St → Option R) (ke : PySem.Str → St → Option R), exK T Φ turns ns n σ b kn kb kr ke = outK kn kb kr ke (exS T Φ ns n σ b)
  | 0, _, _, _, _, _, _ => rfl
  | n + 1, [], _, _, _, _, _ => rfl
  | n + 1, st :: rest, σ, kn, kb, kr, ke => by
    refine (exKV_eq T Φ ns (fun σ b kn kb kr ke => exK_eq ns n b σ kn kb kr ke) σ _ kb kr ke (viewS st)).trans ?_
    show _ = outK kn kb kr ke ((exV T Φ ns (exS T Φ ns n) σ (viewS st)).bind _)
    unfold outK
    rw [Option.bind_assoc]
    congr 1; funext x
    obtain ⟨o, σ'⟩ := x
    cases o with
    | next => exact exK_eq ns n rest σ' kn kb kr ke
    | _ => rfl
end

noncomputable def isSelf : List MV → Bool
  | .self :: _ => true
  | _ => false
/-- a call, in continuation form -/
theorem callK {T : Tab} {l : Nat} {f : PySem.Str} {as : List MV} {φ : Fld} {d : Def} (hd : defTab f (isSelf as) = some d) (hl : (d.params.length == as.length) = true) :
    callN T (l + 1) f as φ = exK T (callN T l) turns d.names depth ⟨d.params.zip as, φ⟩ d.body (fun σ => some (.none, σ.φ)) (fun _ => Option.none) (fun v σ => some (v, σ.φ)) (fun _ _ => Option.none) := by
  show ((defTab f (isSelf as)).bind fun d => bif d.params.length == as.length then (exS T (callN T l) d.names depth ⟨d.params.zip as, φ⟩ d.body).bind fun (o, σ) => match o with
        | .ret v => some (v, σ.φ)
        | .next => some (.none, σ.φ)
        | _ => Option.none else Option.none) = _
  rw [hd, Option.bind_some, hl, cond_true, exK_eq]
  unfold outK
  congr 1; funext x
  obtain ⟨o, σ⟩ := x
  cases o <;> rfl
end Nor
end

section
open PySem PySem.W
set_option Elab.async false
set_option maxRecDepth 100000
namespace Nor

/-- the stemmer's fields -/
noncomputable def fld (cur : PySem.Str) (c l lb b k p : Int) : Fld := [("current", .str cur), ("cursor", .int c), ("limit", .int l), ("limit_backward", .int lb), ("bra", .int b), ("ket", .int k), ("I_p1", .int p)]
noncomputable def fl6 (cur : PySem.Str) (c l lb b k : Int) : Fld := [("current", .str cur), ("cursor", .int c), ("limit", .int l), ("limit_backward", .int lb), ("bra", .int b), ("ket", .int k)]
noncomputable def gd {α : Type} (b : Bool) (x : Option α) : Option α := bif b then x else Option.none
theorem gd_true {α : Type} {b : Bool} (h : b = true) (x : Option α) : gd b x = x := by rw [h]; rfl

noncomputable def whT : Stmt → Expr
  | .While t _ _ _ => t
  | _ => default
noncomputable def whB : Stmt → List Stmt
  | .While _ b _ _ => b
  | _ => []
noncomputable def forB : Stmt → List Stmt
  | .For _ _ b _ _ => b
  | _ => []
noncomputable def thenB : Stmt → List Stmt
  | .If _ b _ _ => b
  | _ => []
noncomputable def elseB : Stmt → List Stmt
  | .If _ _ b _ => b
  | _ => []
noncomputable def tryB : Stmt → List Stmt
  | .Try b _ _ _ _ => b
  | _ => []
noncomputable def bodyOf (f : PySem.Str) (m : Bool) : List Stmt := ((defTab f m).getD ⟨[], [], []⟩).body
noncomputable def namesOf (f : PySem.Str) (m : Bool) : List (PySem.Str × NameKind) := ((defTab f m).getD ⟨[], [], []⟩).names
noncomputable def nth (l : List Stmt) (i : Nat) : Stmt := (l[i]?).getD (.Pass default)

section
variable {R : Type} (Φ : CallT) (tn : Nat)
/-- a while of a def's -/
noncomputable def wk (f : PySem.Str) (m : Bool) (n : Nat) (st : Stmt) : Nat → St → (St → Option R) → (MV → St → Option R) → (PySem.Str → St → Option R) → Option R :=
  whileK (fun σ k => evTK TT Φ (namesOf f m) σ.ρ depth σ.φ (whT st) fun c φ => k c ⟨σ.ρ, φ⟩) (fun σ kn kb kr ke => exK TT Φ tn (namesOf f m) n σ (whB st) kn kb kr ke)
noncomputable def fk (f : PySem.Str) (m : Bool) (n : Nat) (x : PySem.Str) (st : Stmt) : List MV → St → (St → Option R) → (MV → St → Option R) → Option R :=
  forK x (fun σ kn kb kr ke => exK TT Φ tn (namesOf f m) n σ (forB st) kn kb kr ke)

noncomputable def KN : St → Option (MV × Fld) := fun σ => some (.none, σ.φ)
noncomputable def KB0 : St → Option (MV × Fld) := fun _ => Option.none
noncomputable def KR : MV → St → Option (MV × Fld) := fun v σ => some (v, σ.φ)
noncomputable def KE : PySem.Str → St → Option (MV × Fld) := fun _ _ => Option.none
/-- a def's run -/
noncomputable def run (f : PySem.Str) (m : Bool) (as : List MV) (φ : Fld) : Option (MV × Fld) := (defTab f m).bind fun d => exK TT Φ tn d.names depth ⟨d.params.zip as, φ⟩ d.body KN KB0 KR KE
end

variable (Φ : CallT) (tn : Nat) (cur s : PySem.Str) (c lim lb b k p : Int) (st : List PySem.Str)

theorem r_get : run Φ tn "get_current" true [.self] (fld cur c lim lb b k p) = some (.str cur, fld cur c lim lb b k p) := by kernel_rfl
theorem r_set6 : run Φ tn "set_current" true [.self, .str s] (fl6 cur c lim lb b k) = some (.none, fl6 s 0 s.length 0 0 s.length) := by kernel_rfl
theorem r_set : run Φ tn "set_current" true [.self, .str s] (fld cur c lim lb b k p) = some (.none, fld s 0 s.length 0 0 s.length p) := by kernel_rfl
theorem r_set0 : run Φ tn "set_current" true [.self, .str s] [] = some (.none, fl6 s 0 s.length 0 0 s.length) := by kernel_rfl

/-- the sign at a place, as a text -/
noncomputable def sg (s : PySem.Str) (i : Int) : PySem.Str := ⟨#[s.cps.toList.getD i.toNat 0]⟩
noncomputable def inB (s : PySem.Str) (i : Int) : Bool := decide (0 ≤ i) && decide (i < s.length)
theorem r_inb : run Φ tn "in_grouping_b" true [.self, .set st] (fld cur c lim lb b k p) =
    bif decide (c ≤ lb) then some (.bool false, fld cur c lim lb b k p) else gd (inB cur (c - 1)) (bif !st.contains (sg cur (c - 1)) then some (.bool false, fld cur c lim lb b k p) else some (.bool true, fld cur (c - 1) lim lb b k p)) := by kernel_rfl
theorem r_outb : run Φ tn "out_grouping_b" true [.self, .set st] (fld cur c lim lb b k p) =
    bif decide (c ≤ lb) then some (.bool false, fld cur c lim lb b k p) else gd (inB cur (c - 1)) (bif !st.contains (sg cur (c - 1)) then some (.bool true, fld cur (c - 1) lim lb b k p) else some (.bool false, fld cur c lim lb b k p)) := by kernel_rfl

noncomputable def goOut : Stmt := nth (bodyOf "go_out_grouping" true) 0
noncomputable def goIn : Stmt := nth (bodyOf "go_in_grouping" true) 0
theorem r_goOut : run Φ tn "go_out_grouping" true [.self, .set st] (fld cur c lim lb b k p) = wk Φ tn "go_out_grouping" true 29 goOut tn ⟨[("self", .self), ("s", .set st)], fld cur c lim lb b k p⟩ (fun σ => some (.bool false, σ.φ)) KR KE := by kernel_rfl
theorem r_goIn : run Φ tn "go_in_grouping" true [.self, .set st] (fld cur c lim lb b k p) = wk Φ tn "go_in_grouping" true 29 goIn tn ⟨[("self", .self), ("s", .set st)], fld cur c lim lb b k p⟩ (fun σ => some (.bool false, σ.φ)) KR KE := by kernel_rfl
theorem w_goOut (N : Nat) : wk Φ tn "go_out_grouping" true 29 goOut (N + 1) ⟨[("self", .self), ("s", .set st)], fld cur c lim lb b k p⟩ (fun σ => some (.bool false, σ.φ)) KR KE =
    bif decide (c < lim) then gd (inB cur c) (bif st.contains (sg cur c) then some (.bool true, fld cur c lim lb b k p) else wk Φ tn "go_out_grouping" true 29 goOut N ⟨[("self", .self), ("s", .set st)], fld cur (c + 1) lim lb b k p⟩ (fun σ => some (.bool false, σ.φ)) KR KE)
    else some (.bool false, fld cur c lim lb b k p) := by kernel_rfl
theorem w_goIn (N : Nat) : wk Φ tn "go_in_grouping" true 29 goIn (N + 1) ⟨[("self", .self), ("s", .set st)], fld cur c lim lb b k p⟩ (fun σ => some (.bool false, σ.φ)) KR KE =
    bif decide (c < lim) then gd (inB cur c) (bif !st.contains (sg cur c) then some (.bool true, fld cur c lim lb b k p) else wk Φ tn "go_in_grouping" true 29 goIn N ⟨[("self", .self), ("s", .set st)], fld cur (c + 1) lim lb b k p⟩ (fun σ => some (.bool false, σ.φ)) KR KE)
    else some (.bool false, fld cur c lim lb b k p) := by kernel_rfl
end Nor
end

section
open PySem PySem.W
set_option Elab.async false
set_option maxRecDepth 100000
namespace Nor
variable (Φ : CallT) (tn : Nat) (cur s : PySem.Str) (c lim lb b k p : Int)

/-- the rest of a def, from a statement on -/
noncomputable def at_ (f : PySem.Str) (m : Bool) (n i : Nat) (σ : St) : Option (MV × Fld) := exK TT Φ tn (namesOf f m) n σ ((bodyOf f m).drop i) KN KB0 KR KE

noncomputable def okB (i : Int) : Bool := decide (0 ≤ i) && fits i
noncomputable def tk (s : PySem.Str) (i : Nat) : PySem.Str := ⟨(cut Nat s.cps.toList 0 (some i)).toArray⟩
noncomputable def dr (s : PySem.Str) (i : Nat) : PySem.Str := ⟨(cut Nat s.cps.toList i Option.none).toArray⟩
noncomputable def addB (s t : PySem.Str) : Bool := Nat.ble (s.length + t.length) big

theorem r_replace (a z : Int) : run Φ tn "replace_s" true [.self, .int a, .int z, .str s] (fld cur c lim lb b k p) =
    gd (okB a) (gd (addB (tk cur a.toNat) s) (gd (okB z) (gd (addB (tk cur a.toNat ++ s) (dr cur z.toNat)) (
      bif decide (z ≤ c) then some (.int ((s.length : Int) - (z - a)), fld (tk cur a.toNat ++ s ++ dr cur z.toNat) (c + ((s.length : Int) - (z - a))) (lim + ((s.length : Int) - (z - a))) lb b k p)
      else bif decide (a < c) then some (.int ((s.length : Int) - (z - a)), fld (tk cur a.toNat ++ s ++ dr cur z.toNat) a (lim + ((s.length : Int) - (z - a))) lb b k p)
      else some (.int ((s.length : Int) - (z - a)), fld (tk cur a.toNat ++ s ++ dr cur z.toNat) c (lim + ((s.length : Int) - (z - a))) lb b k p))))) := by kernel_rfl
theorem r_slice : run Φ tn "slice_from" true [.self, .str s] (fld cur c lim lb b k p) =
    gd (decide (0 ≤ b)) (gd (decide (b ≤ k)) (gd (decide (k ≤ lim)) (gd (decide (lim ≤ cur.length)) ((Φ "replace_s" [.self, .int b, .int k, .str s] (fld cur c lim lb b k p)).bind fun r =>
      gd (droppable r.1) (at_ Φ tn "slice_from" true 25 5 ⟨[("self", .self), ("s", .str s)], r.2⟩))))) := by kernel_rfl
theorem a_slice : at_ Φ tn "slice_from" true 25 5 ⟨[("self", .self), ("s", .str s)], fld cur c lim lb b k p⟩ = some (.none, fld cur c lim lb b (b + s.length) p) := by kernel_rfl
theorem r_del : run Φ tn "slice_del" true [.self] (fld cur c lim lb b k p) = (Φ "slice_from" [.self, .str ""] (fld cur c lim lb b k p)).bind fun r => some (r.1, r.2) := by kernel_rfl

noncomputable def mrT : Stmt := nth (bodyOf "r_mark_regions" true) 2
noncomputable def mrW : List Stmt := whB (nth (tryB mrT) 0)
noncomputable def mrI : Stmt := nth (tryB (nth mrW 1)) 0
noncomputable def rho (c : Int) : Fld := [("self", .self), ("v_1", .int c), ("v_2", .int c)]
noncomputable def Q : PySem.Str := "'"

theorem w_mrI {R : Type} (ρc : Int) (N : Nat) (kn : St → Option R) (kr : MV → St → Option R) (ke : PySem.Str → St → Option R) :
    wk Φ tn "r_mark_regions" true 23 mrI (N + 1) ⟨rho ρc, fld cur c lim lb b k p⟩ kn kr ke =
      let A := bif decide (lim ≤ c) then ke "lab1" ⟨rho ρc, fld cur c lim lb b k p⟩ else wk Φ tn "r_mark_regions" true 23 mrI N ⟨rho ρc, fld cur (c + 1) lim lb b k p⟩ kn kr ke
      let B := kn ⟨rho ρc, fld cur (c + 1) lim lb b k p⟩
      bif !(c == lim) then gd (inB cur c) (bif !(sg cur c != Q) then B else bif sg cur c != Q then A else B) else bif c == lim then A else B := by kernel_rfl


noncomputable def mrN : List (PySem.Str × NameKind) := namesOf "r_mark_regions" true
noncomputable def mrC3 : St → Option (MV × Fld) := at_ Φ tn "r_mark_regions" true 27 3
noncomputable def mrKe2 (c : PySem.Str) (σ : St) : Option (MV × Fld) := bif c == "lab0" then mrC3 Φ tn σ else KE c σ
noncomputable def mrD (σ : St) : Option (MV × Fld) := exK TT Φ tn mrN 26 σ ((tryB mrT).drop 1) (mrC3 Φ tn) KB0 KR (mrKe2 Φ tn)
noncomputable def mrL (σ : St) : Option (MV × Fld) := wk Φ tn "r_mark_regions" true 26 (nth (tryB mrT) 0) (tn - 1) σ (mrD Φ tn) KR (mrKe2 Φ tn)
noncomputable def mrAt (n i : Nat) (σ : St) : Option (MV × Fld) := exK TT Φ tn mrN n σ (mrW.drop i) (mrL Φ tn) (mrD Φ tn) KR (mrKe2 Φ tn)
noncomputable def mrKe1 (c : PySem.Str) (σ : St) : Option (MV × Fld) := bif c == "lab1" then mrAt Φ tn 24 2 σ else mrKe2 Φ tn c σ
noncomputable def mrKn (σ : St) : Option (MV × Fld) := exK TT Φ tn mrN 23 σ ((tryB (nth mrW 1)).drop 1) (mrAt Φ tn 24 2) (mrD Φ tn) KR (mrKe1 Φ tn)
noncomputable def mrTest (n i : Nat) (v : Int) (r : MV × Fld) : Option (MV × Fld) := (truth r.1).bind fun bb => bif !bb then mrKe2 Φ tn "lab0" ⟨rho v, r.2⟩ else mrAt Φ tn n i ⟨rho v, r.2⟩
theorem r_mark : run Φ (tn + 1) "r_mark_regions" true [.self] (fld cur c lim lb b k p) = wk Φ (tn + 1) "r_mark_regions" true 23 mrI (tn + 1) ⟨rho c, fld cur c lim lb b k lim⟩ (mrKn Φ (tn + 1)) KR (mrKe1 Φ (tn + 1)) := by kernel_rfl
theorem r_mark6 : run Φ (tn + 1) "r_mark_regions" true [.self] (fl6 cur c lim lb b k) = wk Φ (tn + 1) "r_mark_regions" true 23 mrI (tn + 1) ⟨rho c, fld cur c lim lb b k lim⟩ (mrKn Φ (tn + 1)) KR (mrKe1 Φ (tn + 1)) := by kernel_rfl
/-- the end of it: the region's start p -/
noncomputable def mrFin (cur : PySem.Str) (v lim lb b k p : Int) : Option (MV × Fld) := bif decide (lim < v + 3) then some (.bool false, fld cur v lim lb b k p) else bif decide (v + 3 ≤ p) then some (.bool true, fld cur v lim lb b k p) else some (.bool true, fld cur v lim lb b k (v + 3))
theorem m_kn (v c : Int) : mrKn Φ tn ⟨rho v, fld cur c lim lb b k p⟩ = mrFin cur v lim lb b k c := by kernel_rfl
theorem m_ke (v c : Int) : mrKe1 Φ tn "lab1" ⟨rho v, fld cur c lim lb b k p⟩ = (Φ "go_out_grouping" [.self, .set csV] (fld cur v lim lb b k p)).bind (mrTest Φ tn 22 4 v) := by kernel_rfl
theorem m_lab0 (v c : Int) : mrKe2 Φ tn "lab0" ⟨rho v, fld cur c lim lb b k p⟩ = mrFin cur v lim lb b k p := by kernel_rfl
theorem m_in (v c : Int) : mrAt Φ tn 22 4 ⟨rho v, fld cur c lim lb b k p⟩ = (Φ "go_in_grouping" [.self, .set csV] (fld cur (c + 1) lim lb b k p)).bind (mrTest Φ tn 20 6 v) := by kernel_rfl
theorem m_end (v c : Int) : mrAt Φ tn 20 6 ⟨rho v, fld cur c lim lb b k p⟩ = mrFin cur v lim lb b k (c + 1) := by kernel_rfl
end Nor
end

section
open PySem PySem.W
set_option Elab.async false
set_option maxRecDepth 100000
namespace Nor
variable (Φ : CallT) (tn : Nat) (cur : PySem.Str) (cc lim l2 b kk p : Int) (v w : MV) (i j c lb ci cj k d co i2 si r : Int) (fst : Bool) (ws : PySem.Str)

noncomputable def rF (v : MV) (i j c lb ci cj : Int) (fst : Bool) (x : Fld) : Fld :=
  ("self", .self) :: ("v", v) :: ("i", .int i) :: ("j", .int j) :: ("c", .int c) :: ("lb", .int lb) :: ("common_i", .int ci) :: ("common_j", .int cj) :: ("first_key_inspected", .bool fst) :: x
noncomputable def xX (k d co : Int) (w : MV) (o : Option Int) : Fld := ("k", .int k) :: ("diff", .int d) :: ("common", .int co) :: ("w", w) :: (match o with
  | Option.none => []
  | some i2 => [("i2", .int i2)])

noncomputable def faN : List (PySem.Str × NameKind) := namesOf "find_among_b" true
noncomputable def faS (i : Nat) : Stmt := nth (bodyOf "find_among_b" true) i
/-- behind the first loop -/
noncomputable def faK : St → Option (MV × Fld) := at_ Φ tn "find_among_b" true 22 8
noncomputable def faW (N : Nat) (σ : St) : Option (MV × Fld) := wk Φ tn "find_among_b" true 22 (faS 7) N σ (faK Φ tn) KR KE
noncomputable def faAt (N n i : Nat) (σ : St) : Option (MV × Fld) := exK TT Φ tn faN n σ ((whB (faS 7)).drop i) (faW Φ tn N) (faK Φ tn) KR KE
noncomputable def faF : Stmt := nth (whB (faS 7)) 4
noncomputable def faFor (N : Nat) (l : List MV) (σ : St) : Option (MV × Fld) := fk Φ tn "find_among_b" true 17 "i2" faF l σ (faAt Φ tn N 17 5) KR

theorem r_find (l : List MV) : run Φ tn "find_among_b" true [.self, .list l] (fld cur cc lim l2 b kk p) = faW Φ tn tn ⟨rF (.list l) 0 l.length cc l2 0 0 false [], fld cur cc lim l2 b kk p⟩ := by kernel_rfl
noncomputable def mid (i j : Int) : Int := i + (j - i).fdiv 2
noncomputable def mn (a b : Int) : Int := if b < a then b else a
theorem f_turn0 (N : Nat) (l : List MV) : faW Φ tn (N + 1) ⟨rF (.list l) i j c lb ci cj fst [], fld cur cc lim l2 b kk p⟩ =
    gd (decide (0 ≤ mid i j) && decide (mid i j < l.length)) ((l[(mid i j).toNat]?).bind fun w => faAt Φ tn N 18 4 ⟨rF (.list l) i j c lb ci cj fst (xX (mid i j) 0 (mn ci cj) w Option.none), fld cur cc lim l2 b kk p⟩) := by kernel_rfl
theorem f_turn (N : Nat) (l : List MV) (o : Option Int) : faW Φ tn (N + 1) ⟨rF (.list l) i j c lb ci cj fst (xX k d co w o), fld cur cc lim l2 b kk p⟩ =
    gd (decide (0 ≤ mid i j) && decide (mid i j < l.length)) ((l[(mid i j).toNat]?).bind fun w => faAt Φ tn N 18 4 ⟨rF (.list l) i j c lb ci cj fst (xX (mid i j) 0 (mn ci cj) w o), fld cur cc lim l2 b kk p⟩) := by
  cases o
  · kernel_rfl
  · kernel_rfl
/-- the inner loop begins -/
theorem f_for (N : Nat) (o : Option Int) : faAt Φ tn N 18 4 ⟨rF v i j c lb ci cj fst (xX k d co (.am ws si r) o), fld cur cc lim l2 b kk p⟩ =
    gd (fits ((ws.length : Int) - 1 - co) && fits (-1) && (-1 : Int) == -1) (gd (fits ((ws.length : Int) - 1 - co) && fits (-1) && ((-1 : Int) == 1 || (-1 : Int) == -1)) (faFor Φ tn N (rangeL ((ws.length : Int) - 1 - co) (-1) (-1)) ⟨rF v i j c lb ci cj fst (xX k d co (.am ws si r) o), fld cur cc lim l2 b kk p⟩)) := by
  cases o
  · kernel_rfl
  · kernel_rfl
noncomputable def chA (s : PySem.Str) (i : Int) : Nat := s.cps.toList.getD i.toNat 0
theorem fo_nil (N : Nat) (σ : St) : faFor Φ tn N [] σ = faAt Φ tn N 17 5 σ := by kernel_rfl
theorem fo_cons (N : Nat) (l : List MV) (o : Option Int) : faFor Φ tn N (.int i2 :: l) ⟨rF v i j c lb ci cj fst (xX k d co (.am ws si r) o), fld cur cc lim l2 b kk p⟩ =
    bif c - co == lb then faAt Φ tn N 17 5 ⟨rF v i j c lb ci cj fst (xX k (-1) co (.am ws si r) (some i2)), fld cur cc lim l2 b kk p⟩
    else gd (inB cur (c - 1 - co)) (gd (inB ws i2) (bif (chA cur (c - 1 - co) : Int) - (chA ws i2 : Int) != 0
      then faAt Φ tn N 17 5 ⟨rF v i j c lb ci cj fst (xX k ((chA cur (c - 1 - co) : Int) - (chA ws i2 : Int)) co (.am ws si r) (some i2)), fld cur cc lim l2 b kk p⟩
      else faFor Φ tn N l ⟨rF v i j c lb ci cj fst (xX k ((chA cur (c - 1 - co) : Int) - (chA ws i2 : Int)) (co + 1) (.am ws si r) (some i2)), fld cur cc lim l2 b kk p⟩)) := by
  cases o
  · kernel_rfl
  · kernel_rfl
/-- behind the inner loop: to the next turn, or out -/
noncomputable def faGo (N : Nat) (i j ci cj : Int) (fst : Bool) (σ : Int → Int → Int → Int → Bool → St) : Option (MV × Fld) :=
  bif decide (j - i ≤ 1) then (bif decide (0 < i) then faK Φ tn (σ i j ci cj fst) else bif j == i then faK Φ tn (σ i j ci cj fst) else bif fst then faK Φ tn (σ i j ci cj fst) else faW Φ tn N (σ i j ci cj true)) else faW Φ tn N (σ i j ci cj fst)
theorem f_end (N : Nat) (o : Option Int) : faAt Φ tn N 17 5 ⟨rF v i j c lb ci cj fst (xX k d co w o), fld cur cc lim l2 b kk p⟩ =
    bif decide (d < 0) then faGo Φ tn N i k ci co fst (fun i j ci cj fst => ⟨rF v i j c lb ci cj fst (xX k d co w o), fld cur cc lim l2 b kk p⟩)
    else faGo Φ tn N k j co cj fst (fun i j ci cj fst => ⟨rF v i j c lb ci cj fst (xX k d co w o), fld cur cc lim l2 b kk p⟩) := by
  cases o
  · kernel_rfl
  · kernel_rfl

/-- the second loop -/
noncomputable def fbW (N : Nat) (σ : St) : Option (MV × Fld) := wk Φ tn "find_among_b" true 21 (faS 8) N σ (at_ Φ tn "find_among_b" true 21 9) KR KE
noncomputable def fbAt (N n i : Nat) (σ : St) : Option (MV × Fld) := exK TT Φ tn faN n σ ((whB (faS 8)).drop i) (fbW Φ tn N) (at_ Φ tn "find_among_b" true 21 9) KR KE
theorem f_second (σ : St) : faK Φ tn σ = fbW Φ tn tn σ := by kernel_rfl
theorem b_turn (N : Nat) (l : List MV) (o : Option Int) : fbW Φ tn (N + 1) ⟨rF (.list l) i j c lb ci cj fst (xX k d co w o), fld cur cc lim l2 b kk p⟩ =
    gd (decide (0 ≤ i) && decide (i < l.length)) ((l[i.toNat]?).bind fun w => fbAt Φ tn N 20 1 ⟨rF (.list l) i j c lb ci cj fst (xX k d co w o), fld cur cc lim l2 b kk p⟩) := by
  cases o
  · kernel_rfl
  · kernel_rfl
theorem b_end (N : Nat) (l : List MV) (o : Option Int) : fbAt Φ tn N 20 1 ⟨rF (.list l) i j c lb ci cj fst (xX k d co (.am ws si r) o), fld cur cc lim l2 b kk p⟩ =
    bif decide (ws.length ≤ ci) then some (.int r, fld cur (c - ws.length) lim l2 b kk p)
    else bif decide (si < 0) then some (.int 0, fld cur cc lim l2 b kk p)
    else fbW Φ tn N ⟨rF (.list l) si j c lb ci cj fst (xX k d co (.am ws si r) o), fld cur cc lim l2 b kk p⟩ := by
  cases o
  · kernel_rfl
  · kernel_rfl
end Nor
end

section
open PySem PySem.W
set_option Elab.async false
set_option maxRecDepth 100000
namespace Nor
variable (Φ : CallT) (tn : Nat) (cur s : PySem.Str) (c lim lb b k p v2 r v3 : Int)

noncomputable def asOf (n : PySem.Str) : List MV := match get n clsT with
  | some (.list l) => l
  | _ => []
noncomputable def rh0 : Fld := [("self", .self)]
noncomputable def rhM (v2 : Int) (r : MV) : Fld := [("self", .self), ("v_2", .int v2), ("among_var", r)]
noncomputable def rhW (v2 : Int) (r : MV) (v3 : Int) : Fld := [("self", .self), ("v_2", .int v2), ("among_var", r), ("v_3", .int v3)]
noncomputable def msN : List (PySem.Str × NameKind) := namesOf "r_main_suffix" true
noncomputable def msE2 : Stmt := nth (elseB (nth (bodyOf "r_main_suffix" true) 8)) 0
noncomputable def msE3 : Stmt := nth (elseB msE2) 0
noncomputable def msW : Stmt := nth (thenB msE3) 0
noncomputable def msEnd : St → Option (MV × Fld) := at_ Φ tn "r_main_suffix" true 21 9
noncomputable def msBrk (σ : St) : Option (MV × Fld) := exK TT Φ tn msN 18 σ ((thenB msE3).drop 1) (msEnd Φ tn) KB0 KR KE
noncomputable def msLoop (N : Nat) (σ : St) : Option (MV × Fld) := wk Φ tn "r_main_suffix" true 18 msW N σ (msBrk Φ tn) KR KE
noncomputable def msAt (N n i : Nat) (σ : St) : Option (MV × Fld) := exK TT Φ tn msN n σ ((whB msW).drop i) (msLoop Φ tn N) (msBrk Φ tn) KR KE
noncomputable def ms0 (σ : St) : Option (MV × Fld) := exK TT Φ tn msN 19 σ ((thenB msE2).drop 1) (msEnd Φ tn) KB0 KR KE

/-- behind a call whose value is dropped -/
noncomputable def dropT (q : MV × Fld) : Option (MV × Fld) := bif droppable q.1 then some (.bool true, q.2) else Option.none

theorem r_main : run Φ tn "r_main_suffix" true [.self] (fld cur c lim lb b k p) =
    bif decide (c < p) then some (.bool false, fld cur c lim lb b k p)
    else (Φ "find_among_b" [.self, .list (asOf "a_1")] (fld cur c lim p b c p)).bind fun q => at_ Φ tn "r_main_suffix" true 25 5 ⟨rhM lb q.1, q.2⟩ := by kernel_rfl
theorem a_main : at_ Φ tn "r_main_suffix" true 25 5 ⟨rhM v2 (.int r), fld cur c lim lb b k p⟩ =
    bif r == 0 then some (.bool false, fld cur c lim v2 b k p)
    else bif r == 1 then (Φ "slice_del" [.self] (fld cur c lim v2 c k p)).bind dropT
    else bif r == 2 then (Φ "find_among_b" [.self, .list (asOf "a_0")] (fld cur c lim v2 c k p)).bind fun q => ms0 Φ tn ⟨rhM v2 q.1, q.2⟩
    else bif r == 3 then msLoop Φ tn tn ⟨rhM v2 (.int r), fld cur c lim v2 c k p⟩
    else (Φ "slice_from" [.self, .str "er"] (fld cur c lim v2 c k p)).bind dropT := by kernel_rfl
theorem a_ms0 : ms0 Φ tn ⟨rhM v2 (.int r), fld cur c lim lb b k p⟩ =
    bif r == 1 then (Φ "slice_del" [.self] (fld cur c lim lb b k p)).bind dropT else some (.bool true, fld cur c lim lb b k p) := by kernel_rfl
theorem a_brk : msBrk Φ tn ⟨rhW v2 (.int r) v3, fld cur c lim lb b k p⟩ = (Φ "slice_del" [.self] (fld cur c lim lb b k p)).bind dropT := by kernel_rfl
theorem a_brk0 : msBrk Φ tn ⟨rhM v2 (.int r), fld cur c lim lb b k p⟩ = (Φ "slice_del" [.self] (fld cur c lim lb b k p)).bind dropT := by kernel_rfl
theorem a_loop (N : Nat) : msLoop Φ tn (N + 1) ⟨rhM v2 (.int r), fld cur c lim lb b k p⟩ =
    (Φ "in_grouping_b" [.self, .set csS] (fld cur c lim lb b k p)).bind fun q => (truth q.1).bind fun bb => bif !bb then msAt Φ tn N 16 2 ⟨rhW v2 (.int r) (lim - c), q.2⟩ else msBrk Φ tn ⟨rhW v2 (.int r) (lim - c), q.2⟩ := by kernel_rfl
noncomputable def chNe (cur : PySem.Str) (i : Int) (x : PySem.Str) : Bool := sg cur i != x
/-- «here ≤ lb or the sign before is not x» -/
noncomputable def orT {R : Type} (cur : PySem.Str) (c lb : Int) (x : PySem.Str) (A B : Option R) : Option R :=
  bif !decide (c ≤ lb) then gd (inB cur (c - 1)) (bif !(sg cur (c - 1) != x) then B else bif sg cur (c - 1) != x then A else B) else bif decide (c ≤ lb) then A else B
theorem a_two (N : Nat) : msAt Φ tn N 16 2 ⟨rhW v2 (.int r) v3, fld cur c lim lb b k p⟩ =
    orT cur (lim - v3) lb "r" (msAt Φ tn N 14 4 ⟨rhW v2 (.int r) v3, fld cur (lim - v3) lim lb b k p⟩)
      (orT cur (lim - v3 - 1) lb "e" (msBrk Φ tn ⟨rhW v2 (.int r) v3, fld cur (lim - v3 - 1) lim lb b k p⟩) (msAt Φ tn N 14 4 ⟨rhW v2 (.int r) v3, fld cur (lim - v3 - 1 - 1) lim lb b k p⟩)) := by kernel_rfl
theorem a_four (N : Nat) : msAt Φ tn N 14 4 ⟨rhW v2 (.int r) v3, fld cur c lim lb b k p⟩ =
    orT cur (lim - v3) lb "k" (some (.bool false, fld cur (lim - v3) lim lb b k p))
      ((Φ "out_grouping_b" [.self, .set csV] (fld cur (lim - v3 - 1) lim lb b k p)).bind fun q => (truth q.1).bind fun bb => bif !bb then some (.bool false, q.2) else msBrk Φ tn ⟨rhW v2 (.int r) v3, q.2⟩) := by kernel_rfl

noncomputable def rhC (v1 v3 : Int) : Fld := [("self", .self), ("v_1", .int v1), ("v_3", .int v3)]
noncomputable def isZ (q : MV × Fld) (A B : Option (MV × Fld)) : Option (MV × Fld) := (cmpMV .Eq q.1 (.int 0)).bind fun v => (truth v).bind fun bb => bif bb then A else B
theorem r_cons : run Φ tn "r_consonant_pair" true [.self] (fld cur c lim lb b k p) =
    bif decide (c < p) then some (.bool false, fld cur c lim lb b k p)
    else (Φ "find_among_b" [.self, .list (asOf "a_2")] (fld cur c lim p b c p)).bind fun q => isZ q (some (.bool false, put "limit_backward" (.int lb) q.2)) (at_ Φ tn "r_consonant_pair" true 24 6 ⟨rhC (lim - c) lb, q.2⟩) := by kernel_rfl
theorem a_cons (v1 : Int) : at_ Φ tn "r_consonant_pair" true 24 6 ⟨rhC v1 v3, fld cur c lim lb b k p⟩ =
    bif decide (lim - v1 ≤ v3) then some (.bool false, fld cur (lim - v1) lim v3 c k p) else (Φ "slice_del" [.self] (fld cur (lim - v1 - 1) lim v3 (lim - v1 - 1) k p)).bind dropT := by kernel_rfl
noncomputable def rhO (v2 : Int) : Fld := [("self", .self), ("v_2", .int v2)]
theorem r_oth : run Φ tn "r_other_suffix" true [.self] (fld cur c lim lb b k p) =
    bif decide (c < p) then some (.bool false, fld cur c lim lb b k p)
    else (Φ "find_among_b" [.self, .list (asOf "a_3")] (fld cur c lim p b c p)).bind fun q => isZ q (some (.bool false, put "limit_backward" (.int lb) q.2)) (at_ Φ tn "r_other_suffix" true 25 5 ⟨rhO lb, q.2⟩) := by kernel_rfl
theorem a_oth : at_ Φ tn "r_other_suffix" true 25 5 ⟨rhO v2, fld cur c lim lb b k p⟩ = (Φ "slice_del" [.self] (fld cur c lim v2 c k p)).bind dropT := by kernel_rfl

noncomputable def rhS1 (v1 : Int) : Fld := [("self", .self), ("v_1", .int v1)]
noncomputable def rhS2 (v1 v2 : Int) : Fld := [("self", .self), ("v_1", .int v1), ("v_2", .int v2)]
noncomputable def rhS3 (v1 v2 v3 : Int) : Fld := [("self", .self), ("v_1", .int v1), ("v_2", .int v2), ("v_3", .int v3)]
noncomputable def tst (q : MV × Fld) (A B : Option (MV × Fld)) : Option (MV × Fld) := (truth q.1).bind fun bb => bif !bb then A else B
theorem r_stem : run Φ tn "_stem" true [.self] (fld cur c lim lb b k p) = (Φ "r_mark_regions" [.self] (fld cur c lim lb b k p)).bind fun q => tst q (some (.bool false, q.2)) (at_ Φ tn "_stem" true 29 1 ⟨rh0, q.2⟩) := by kernel_rfl
theorem r_stem6 : run Φ tn "_stem" true [.self] (fl6 cur c lim lb b k) = (Φ "r_mark_regions" [.self] (fl6 cur c lim lb b k)).bind fun q => tst q (some (.bool false, q.2)) (at_ Φ tn "_stem" true 29 1 ⟨rh0, q.2⟩) := by kernel_rfl
theorem a_st1 : at_ Φ tn "_stem" true 29 1 ⟨rh0, fld cur c lim lb b k p⟩ = (Φ "r_main_suffix" [.self] (fld cur lim lim c b k p)).bind fun q => gd (droppable q.1) (at_ Φ tn "_stem" true 25 5 ⟨rhS1 (lim - lim), q.2⟩) := by kernel_rfl
theorem a_st5 (v1 : Int) : at_ Φ tn "_stem" true 25 5 ⟨rhS1 v1, fld cur c lim lb b k p⟩ = (Φ "r_consonant_pair" [.self] (fld cur (lim - v1) lim lb b k p)).bind fun q => gd (droppable q.1) (at_ Φ tn "_stem" true 22 8 ⟨rhS2 v1 (lim - (lim - v1)), q.2⟩) := by kernel_rfl
theorem a_st8 (v1 : Int) : at_ Φ tn "_stem" true 22 8 ⟨rhS2 v1 v2, fld cur c lim lb b k p⟩ = (Φ "r_other_suffix" [.self] (fld cur (lim - v2) lim lb b k p)).bind fun q => gd (droppable q.1) (at_ Φ tn "_stem" true 19 11 ⟨rhS3 v1 v2 (lim - (lim - v2)), q.2⟩) := by kernel_rfl
theorem a_st11 (v1 : Int) : at_ Φ tn "_stem" true 19 11 ⟨rhS3 v1 v2 v3, fld cur c lim lb b k p⟩ =
    orT cur (lim - v3) lb "'" (some (.bool false, fld cur (lim - v3) lim lb b (lim - v3) p)) ((Φ "slice_del" [.self] (fld cur (lim - v3 - 1) lim lb (lim - v3 - 1) (lim - v3) p)).bind fun q => gd (droppable q.1) (at_ Φ tn "_stem" true 13 17 ⟨rhS3 v1 v2 v3, q.2⟩)) := by kernel_rfl
theorem a_st17 (v1 : Int) : at_ Φ tn "_stem" true 13 17 ⟨rhS3 v1 v2 v3, fld cur c lim lb b k p⟩ = some (.bool true, fld cur lb lim lb b k p) := by kernel_rfl

noncomputable def rhWd (w : PySem.Str) : Fld := [("self", .self), ("word", .str w)]
theorem r_word : run Φ tn "stemWord" true [.self, .str s] (fld cur c lim lb b k p) = (Φ "set_current" [.self, .str s] (fld cur c lim lb b k p)).bind fun q => gd (droppable q.1) (at_ Φ tn "stemWord" true 29 1 ⟨rhWd s, q.2⟩) := by kernel_rfl
theorem r_word6 : run Φ tn "stemWord" true [.self, .str s] (fl6 cur c lim lb b k) = (Φ "set_current" [.self, .str s] (fl6 cur c lim lb b k)).bind fun q => gd (droppable q.1) (at_ Φ tn "stemWord" true 29 1 ⟨rhWd s, q.2⟩) := by kernel_rfl
theorem a_wd1 : at_ Φ tn "stemWord" true 29 1 ⟨rhWd s, fld cur c lim lb b k p⟩ = (Φ "_stem" [.self] (fld cur c lim lb b k p)).bind fun q => gd (droppable q.1) (at_ Φ tn "stemWord" true 28 2 ⟨rhWd s, q.2⟩) := by kernel_rfl
theorem a_wd1' : at_ Φ tn "stemWord" true 29 1 ⟨rhWd s, fl6 cur c lim lb b k⟩ = (Φ "_stem" [.self] (fl6 cur c lim lb b k)).bind fun q => gd (droppable q.1) (at_ Φ tn "stemWord" true 28 2 ⟨rhWd s, q.2⟩) := by kernel_rfl
theorem a_wd2 : at_ Φ tn "stemWord" true 28 2 ⟨rhWd s, fld cur c lim lb b k p⟩ = (Φ "get_current" [.self] (fld cur c lim lb b k p)).bind fun q => some (q.1, q.2) := by kernel_rfl
theorem r_init : run Φ tn "__init__" true [.self] [] = (Φ "set_current" [.self, .str ""] []).bind fun q => gd (droppable q.1) (some (.none, q.2)) := by kernel_rfl
end Nor
end

section
open PySem PySem.W
set_option Elab.async false
set_option maxRecDepth 100000
namespace Nor
variable (Φ : CallT) (tn : Nat) (φ : Fld) (w t e s u : PySem.Str) (l : List MV)

noncomputable def en (s y : PySem.Str) : Bool := endsL s.cps.toList y.cps.toList
noncomputable def gl (n : PySem.Str) : List MV := match get n globT with
  | some (.list l) => l
  | _ => []
noncomputable def vowL : List PySem.Str := ["a", "e", "i", "o", "u", "y", "æ", "ø", "å", "ê", "ò", "ó", "ô"]
noncomputable def befL : List PySem.Str := ["b", "c", "d", "f", "g", "h", "j", "l", "m", "n", "o", "p", "t", "v", "y", "z"]
theorem r_vow : run Φ tn "_law_vowels" false [] φ = some (strL vowL, φ) := by kernel_rfl
theorem r_bef : run Φ tn "_law_before_s" false [] φ = some (strL befL, φ) := by kernel_rfl

noncomputable def clR (t : PySem.Str) (l : List MV) (o : Option MV) : Fld := ("text", .str t) :: ("ends", .list l) :: (match o with
  | none => []
  | some v => [("end", v)])
noncomputable def clF (ls : List MV) (σ : St) : Option (MV × Fld) := fk Φ tn "_law_closed" false 29 "end" (nth (bodyOf "_law_closed" false) 0) ls σ (fun σ => some (.bool false, σ.φ)) KR
theorem r_closed : run Φ tn "_law_closed" false [.str t, .list l] φ = clF Φ tn l ⟨clR t l none, φ⟩ := by kernel_rfl
theorem cl_nil (σ : St) : clF Φ tn [] σ = some (.bool false, σ.φ) := by kernel_rfl
theorem cl_cons (ls : List MV) (o : Option MV) : clF Φ tn (.str e :: ls) ⟨clR t l o, φ⟩ = bif en t e then some (.bool true, φ) else clF Φ tn ls ⟨clR t l (some (.str e)), φ⟩ := by
  cases o
  · kernel_rfl
  · kernel_rfl

noncomputable def wR (w : PySem.Str) : Fld := [("word", .str w)]
noncomputable def wtR (w t : PySem.Str) : Fld := [("word", .str w), ("tail", .str t)]
noncomputable def tsf (q : MV × Fld) (A B : Option (MV × Fld)) : Option (MV × Fld) := (truth q.1).bind fun bb => bif bb then A else B
theorem r_own : run Φ tn "_law_own" false [.str w] φ =
    bif decide ((w.length : Int) < 3) then some (.bool true, φ) else bif en w "'" then some (.bool false, φ)
    else (Φ "_law_start" [.str w] φ).bind fun q => sliceK (.str w) (some q.1) Option.none fun v => at_ Φ tn "_law_own" false 27 3 ⟨[("word", .str w), ("tail", v)], q.2⟩ := by kernel_rfl
theorem a_own3 : at_ Φ tn "_law_own" false 27 3 ⟨wtR w t, φ⟩ = (Φ "_law_closed" [.str t, .list (gl "_law_never")] φ).bind fun q => tsf q (some (.bool false, q.2)) (at_ Φ tn "_law_own" false 26 4 ⟨wtR w t, q.2⟩) := by kernel_rfl
theorem a_own4 : at_ Φ tn "_law_own" false 26 4 ⟨wtR w t, φ⟩ =
    bif en t "ers" then gd (okB ((w.length : Int) - 3)) ((Φ "_law_closed" [.str (tk w ((w.length : Int) - 3).toNat), .list (gl "_law_stays")] φ).bind fun q => (truth q.1).bind fun bb =>
      bif bb then (Φ "_law_closed" [.str (tk w ((w.length : Int) - 3).toNat), .list (gl "_law_falls")] q.2).bind fun r => (truth r.1).bind fun c => some (.bool (!c), r.2) else some (q.1, q.2))
    else at_ Φ tn "_law_own" false 25 5 ⟨wtR w t, φ⟩ := by kernel_rfl
theorem a_own5 : at_ Φ tn "_law_own" false 25 5 ⟨wtR w t, φ⟩ =
    bif en t "s" then gd (inB w ((w.length : Int) - 2)) (gd (inB w ((w.length : Int) - 3)) (
      bif sg w ((w.length : Int) - 2) == "r" then some (.bool (sg w ((w.length : Int) - 3) == "e"), φ)
      else bif sg w ((w.length : Int) - 2) == "k" then (Φ "_law_vowels" [] φ).bind fun q => (cmpMV .In (.str (sg w ((w.length : Int) - 3))) q.1).bind fun v => some (v, q.2)
      else (Φ "_law_before_s" [] φ).bind fun q => (cmpMV .NotIn (.str (sg w ((w.length : Int) - 2))) q.1).bind fun v => some (v, q.2)))
    else some (.bool true, φ) := by kernel_rfl
end Nor
end

section
open PySem PySem.W
set_option Elab.async false
set_option maxRecDepth 100000
namespace Nor
variable (Φ : CallT) (tn : Nat) (φ : Fld) (w t e s u : PySem.Str) (l : List MV) (st k : Int) (ls : List MV)

noncomputable def cutS (s : PySem.Str) (a b : Nat) : PySem.Str := ⟨(cut Nat s.cps.toList a (some b)).toArray⟩
noncomputable def fiS (w s : PySem.Str) (z : Int) (st : MV) : Fld := [("word", .str w), ("stem", .str s), ("size", .int z), ("start", st)]
noncomputable def pass (q : MV × Fld) : Option (MV × Fld) := some (q.1, q.2)
noncomputable def fF (φ : Fld) : Option (MV × Fld) := some (.bool false, φ)
noncomputable def fT (φ : Fld) : Option (MV × Fld) := some (.bool true, φ)
noncomputable def fiGo (q : MV × Fld) : Option (MV × Fld) := at_ Φ tn "_law_fits" false 27 3 ⟨fiS w s s.length q.1, q.2⟩
theorem r_fits : run Φ tn "_law_fits" false [.str w, .str s] φ =
    bif !decide ((w.length : Int) ≤ s.length) then gd (okB s.length) (bif !(tk w (s.length : Int).toNat != s) then (Φ "_law_start" [.str w] φ).bind (fiGo Φ tn w s) else bif tk w (s.length : Int).toNat != s then fF φ else (Φ "_law_start" [.str w] φ).bind (fiGo Φ tn w s))
    else bif decide ((w.length : Int) ≤ s.length) then fF φ else (Φ "_law_start" [.str w] φ).bind (fiGo Φ tn w s) := by kernel_rfl
theorem a_fits3 (z : Int) : at_ Φ tn "_law_fits" false 27 3 ⟨fiS w s z (.int st), φ⟩ =
    let B := at_ Φ tn "_law_fits" false 26 4 ⟨fiS w s z (.int st), φ⟩
    let b1 := decide (z < st)
    let c1 := decide (z < st - 1)
    let c2 := sg w z != Q
    bif b1 then (bif !c1 then gd (inB w z) (bif !c2 then B else bif c2 then fF φ else bif c2 then fF φ else B) else bif c1 then fF φ else bif c1 then fF φ else B) else bif b1 then fF φ else B := by kernel_rfl
theorem a_fits4 (z : Int) : at_ Φ tn "_law_fits" false 26 4 ⟨fiS w s z (.int st), φ⟩ =
    gd (inB w z) (bif sg w z == Q then gd (okB (z + 1)) (gd (okB st) (gd (okB (z + 1)) ((Φ "_law_once" [.str w, .str (dr w (z + 1).toNat), .str (cutS w st.toNat (z + 1).toNat)] φ).bind pass)))
      else at_ Φ tn "_law_fits" false 25 5 ⟨fiS w s z (.int st), φ⟩) := by kernel_rfl
theorem a_fits5 (z : Int) : at_ Φ tn "_law_fits" false 25 5 ⟨fiS w s z (.int st), φ⟩ =
    bif !en s Q then gd (okB z) (gd (okB st) ((Φ "_law_once" [.str w, .str (dr w z.toNat), .str (dr s st.toNat)] φ).bind pass)) else some (.bool (!en s Q), φ) := by kernel_rfl

noncomputable def stR (w : PySem.Str) (o : Option Int) : Fld := ("word", .str w) :: (match o with
  | none => []
  | some k => [("k", .int k)])
noncomputable def s2F (ls : List MV) (σ : St) : Option (MV × Fld) := fk Φ tn "_law_start" false 28 "k" (nth (bodyOf "_law_start" false) 1) ls σ (at_ Φ tn "_law_start" false 28 2) KR
noncomputable def s1F (ls : List MV) (σ : St) : Option (MV × Fld) := fk Φ tn "_law_start" false 29 "k" (nth (bodyOf "_law_start" false) 0) ls σ (at_ Φ tn "_law_start" false 29 1) KR
noncomputable def mx (a b : Int) : Int := if b > a then b else a
theorem r_start : run Φ tn "_law_start" false [.str w] φ = gd (fits w.length) (gd (fits 0 && fits w.length && ((1 : Int) == 1 || (1 : Int) == -1)) (s1F Φ tn (rangeL 0 w.length 1) ⟨stR w none, φ⟩)) := by kernel_rfl
theorem s1_nil (σ : St) : s1F Φ tn [] σ = at_ Φ tn "_law_start" false 29 1 σ := by kernel_rfl
theorem s1_cons (o : Option Int) : s1F Φ tn (.int k :: ls) ⟨stR w o, φ⟩ = gd (inB w k) (bif sg w k == Q then some (.int (mx 3 (k + 1)), φ) else s1F Φ tn ls ⟨stR w (some k), φ⟩) := by
  cases o
  · kernel_rfl
  · kernel_rfl
theorem a_start1 (o : Option Int) : at_ Φ tn "_law_start" false 29 1 ⟨stR w o, φ⟩ = gd (fits 1 && fits w.length) (gd (fits 1 && fits w.length && ((1 : Int) == 1 || (1 : Int) == -1)) (s2F Φ tn (rangeL 1 w.length 1) ⟨stR w o, φ⟩)) := by
  cases o
  · kernel_rfl
  · kernel_rfl
theorem s2_nil (o : Option Int) : s2F Φ tn [] ⟨stR w o, φ⟩ = some (.int w.length, φ) := by
  cases o
  · kernel_rfl
  · kernel_rfl
noncomputable def s2k (ls : List MV) (w : PySem.Str) (k : Int) (b : Bool) (φ : Fld) : Option (MV × Fld) := bif b then some (.int (mx 3 (k + 1)), φ) else s2F Φ tn ls ⟨stR w (some k), φ⟩
theorem s2_cons (o : Option Int) : s2F Φ tn (.int k :: ls) ⟨stR w o, φ⟩ = gd (inB w (k - 1)) ((Φ "_law_vowels" [] φ).bind fun q => (cmpMV .In (.str (sg w (k - 1))) q.1).bind fun v => (truth v).bind fun b =>
    bif b then gd (inB w k) ((Φ "_law_vowels" [] q.2).bind fun r => (cmpMV .NotIn (.str (sg w k)) r.1).bind fun v => (truth v).bind fun b2 => bif b2 then s2k Φ tn ls w k true r.2 else s2k Φ tn ls w k b2 r.2) else s2k Φ tn ls w k b q.2) := by
  cases o
  · kernel_rfl
  · kernel_rfl
end Nor
end

section
open PySem PySem.W
set_option Elab.async false
set_option maxRecDepth 100000
namespace Nor
variable (Φ : CallT) (tn : Nat) (φ : Fld) (w t e m r : PySem.Str) (d : Bool) (ls : List MV)

noncomputable def thirdS : List PySem.Str := ["leg", "eleg", "ig", "eig", "lig", "elig", "els", "lov", "elov", "slov", "hetslov"]
noncomputable def onR (w t e : PySem.Str) (d : Bool) (o : Option (PySem.Str × Option PySem.Str)) : Fld := ("word", .str w) :: ("lost", .str t) :: ("tail", .str e) :: ("done", .bool d) :: (match o with
  | none => []
  | some (m, none) => [("main", .str m)]
  | some (m, some r) => [("main", .str m), ("rest", .str r)])
noncomputable def onN : List (PySem.Str × NameKind) := namesOf "_law_once" false
noncomputable def onS : Stmt := nth (bodyOf "_law_once" false) 2
noncomputable def onT : List Stmt := thenB (nth (forB onS) 0)
noncomputable def onF (ls : List MV) (σ : St) : Option (MV × Fld) := fk Φ tn "_law_once" false 27 "main" onS ls σ (fun σ => fF σ.φ) KR
noncomputable def onB (ls : List MV) (n i : Nat) (σ : St) : Option (MV × Fld) := exK TT Φ tn onN n σ (onT.drop i) (onF Φ tn ls) (fun σ => fF σ.φ) KR (fun _ _ => none)
noncomputable def onC (ls : List MV) (σ : St) : Option (MV × Fld) := exK TT Φ tn onN 22 σ (thenB (nth onT 3)) (onF Φ tn ls) (fun σ => fF σ.φ) KR (fun _ _ => none)

theorem r_once : run Φ tn "_law_once" false [.str w, .str t, .str e] φ =
    let S1 := (Φ "_law_closed" [.str e, .list (gl "_law_third")] φ).bind fun q => (truth q.1).bind fun c => at_ Φ tn "_law_once" false 28 2 ⟨onR w t e (!c) none, q.2⟩
    let k := fun (b : Bool) => bif b then fT φ else S1
    let L := fun (b : Bool) => bif !b then k false else k b
    let second := bif t == "te" then (bif en w "erte" then L true else L (en w "erte")) else L (t == "te")
    let K1 := fun (b : Bool) => bif !b then second else k b
    bif t == "t" then (bif en w "ert" then K1 true else K1 (en w "ert")) else K1 (t == "t") := by kernel_rfl
noncomputable def restOf (o : Option (PySem.Str × Option PySem.Str)) : Option PySem.Str := o.bind (·.2)
theorem on_nil (σ : St) : onF Φ tn [] σ = fF σ.φ := by kernel_rfl
theorem on_cons (o : Option (PySem.Str × Option PySem.Str)) : onF Φ tn (.str m :: ls) ⟨onR w t e d o, φ⟩ =
    bif en t m then gd (okB ((t.length : Int) - m.length)) (onB Φ tn ls 25 1 ⟨onR w t e d (some (m, some (tk t ((t.length : Int) - m.length).toNat))), φ⟩) else onF Φ tn ls ⟨onR w t e d (some (m, restOf o)), φ⟩ := by
  rcases o with _ | ⟨a, _ | b⟩
  · kernel_rfl
  · kernel_rfl
  · kernel_rfl
theorem on_1 : onB Φ tn ls 25 1 ⟨onR w t e d (some (m, some r)), φ⟩ =
    let k := fun (b : Bool) => bif b then fT φ else onB Φ tn ls 24 2 ⟨onR w t e d (some (m, some r)), φ⟩
    let K := fun (b : Bool) => bif b then k true else k b
    bif thirdS.contains r then (bif !(r != "els") then (bif !(m != "") then K false else K (m != "")) else K (r != "els")) else k (thirdS.contains r) := by kernel_rfl
theorem on_2 : onB Φ tn ls 24 2 ⟨onR w t e d (some (m, some r)), φ⟩ =
    let k := fun (b : Bool) (φ : Fld) => bif b then fT φ else onB Φ tn ls 23 3 ⟨onR w t e d (some (m, some r)), φ⟩
    bif r == "" then (bif d then ((Φ "_law_closed" [.str e, .list (gl "_law_pairs")] φ).bind fun q => (truth q.1).bind fun c => bif !c then k true q.2 else k (!c) q.2) else k d φ) else k (r == "") φ := by kernel_rfl
theorem on_3 : onB Φ tn ls 23 3 ⟨onR w t e d (some (m, some r)), φ⟩ =
    let k := fun (b : Bool) (φ : Fld) => bif b then onC Φ tn ls ⟨onR w t e d (some (m, some r)), φ⟩ else onF Φ tn ls ⟨onR w t e d (some (m, some r)), φ⟩
    bif en r "t" then gd (okB ((w.length : Int) - m.length)) ((Φ "_law_closed" [.str (tk w ((w.length : Int) - m.length).toNat), .list (gl "_law_pairs")] φ).bind fun q => (truth q.1).bind fun c => bif c then k true q.2 else k c q.2) else k (en r "t") φ := by kernel_rfl
theorem on_C : onC Φ tn ls ⟨onR w t e d (some (m, some r)), φ⟩ =
    gd (okB ((r.length : Int) - 1)) (
      let r' := tk r ((r.length : Int) - 1).toNat
      let k := fun (b : Bool) => bif b then fT φ else onF Φ tn ls ⟨onR w t e d (some (m, some r')), φ⟩
      let K := fun (b : Bool) => bif !b then k false else k b
      bif !thirdS.contains r' then (bif r' == "" then (bif d then K true else K d) else K (r' == "")) else k (thirdS.contains r')) := by kernel_rfl
end Nor
end

section
open PySem PySem.W
set_option Elab.async false
set_option maxRecDepth 100000
namespace Nor

noncomputable def forI (st : Stmt) : Expr := match viewS st with
  | .fors _ it _ => it
  | _ => default
/-- a for over a list whose value is known -/
theorem for_items {R : Type} {Φ : CallT} {tn n : Nat} {ns : List (PySem.Str × NameKind)} {σ : St} {x : PySem.Str} {st : Stmt} {rest : List Stmt} {kn kb : St → Option R} {kr : MV → St → Option R} {ke : PySem.Str → St → Option R} {u : MV} {L : List MV} {φ : Fld}
    (hs : viewS st = .fors x (forI st) (forB st)) (hx : isLoc ns x = true) (he : evE TT Φ ns σ.ρ depth σ.φ (forI st) = some (u, φ)) (hi : itemsOf u = some L) :
    exK TT Φ tn ns (n + 1) σ (st :: rest) kn kb kr ke = forK x (fun σ kn kb kr ke => exK TT Φ tn ns n σ (forB st) kn kb kr ke) L ⟨σ.ρ, φ⟩ (fun σ' => exK TT Φ tn ns n σ' rest kn kb kr ke) kr := by
  show exKV TT Φ tn ns (exK TT Φ tn ns n) σ (fun σ' => exK TT Φ tn ns n σ' rest kn kb kr ke) kb kr ke (viewS st) = _
  rw [hs]
  unfold exKV
  dsimp only
  rw [hx, cond_true, evK_eq, he, Option.bind_some, itemsK_eq, hi]
  rfl
theorem for_known {R : Type} {Φ : CallT} {tn n : Nat} {ns : List (PySem.Str × NameKind)} {σ : St} {x : PySem.Str} {st : Stmt} {rest : List Stmt} {kn kb : St → Option R} {kr : MV → St → Option R} {ke : PySem.Str → St → Option R} {L : List MV} {φ : Fld}
    (hs : viewS st = .fors x (forI st) (forB st)) (hx : isLoc ns x = true) (he : evE TT Φ ns σ.ρ depth σ.φ (forI st) = some (.list L, φ)) :
    exK TT Φ tn ns (n + 1) σ (st :: rest) kn kb kr ke = forK x (fun σ kn kb kr ke => exK TT Φ tn ns n σ (forB st) kn kb kr ke) L ⟨σ.ρ, φ⟩ (fun σ' => exK TT Φ tn ns n σ' rest kn kb kr ke) kr :=
  for_items hs hx he rfl

variable (Φ : CallT) (tn : Nat) (φ : Fld) (w t e : PySem.Str) (d : Bool)
theorem drop_nth {l : List Stmt} {i : Nat} (h : i < l.length) : l.drop i = nth l i :: l.drop (i + 1) := by
  rw [List.drop_eq_getElem_cons h]
  unfold nth
  rw [List.getElem?_eq_getElem h]; rfl
noncomputable def mainsL : List MV := .str "" :: (gl "_law_main").take 27
theorem once_it : evE TT Φ onN (onR w t e d none) depth φ (forI onS) = some (.list mainsL, φ) := by kernel_rfl
theorem a_once2 : at_ Φ tn "_law_once" false 28 2 ⟨onR w t e d none, φ⟩ = onF Φ tn mainsL ⟨onR w t e d none, φ⟩ := by
  unfold at_
  rw [drop_nth (by decide +kernel)]
  refine (for_known (x := "main") (by kernel_rfl) (by kernel_rfl) (once_it Φ φ w t e d)).trans ?_
  have : ∀ L : List MV, forK "main" (fun σ kn kb kr ke => exK TT Φ tn (namesOf "_law_once" false) 27 σ (forB (nth (bodyOf "_law_once" false) 2)) kn kb kr ke) L ⟨onR w t e d none, φ⟩ (fun σ' => exK TT Φ tn (namesOf "_law_once" false) 27 σ' ((bodyOf "_law_once" false).drop 3) KN KB0 KR KE) KR = onF Φ tn L ⟨onR w t e d none, φ⟩ := fun L => by kernel_rfl
  exact this mainsL
end Nor
end

section
open PySem PySem.W
set_option Elab.async false
set_option maxRecDepth 100000
namespace Nor
variable (Φ : CallT) (tn : Nat) (φ : Fld) (w : PySem.Str) (n z ct : Int) (v : MV) (ls : List MV)

noncomputable def lsR (n z ct : Int) (o : Option MV) : Fld := ("number", .int n) :: ("size", .int z) :: ("count", .int ct) :: (match o with
  | none => []
  | some v => [("turn", v)])
noncomputable def lsR2 (n z ct : Int) (v : MV) (w : PySem.Str) : Fld := [("number", .int n), ("size", .int z), ("count", .int ct), ("turn", v), ("word", .str w)]
noncomputable def lsF1 (ls : List MV) (σ : St) : Option (MV × Fld) := fk Φ tn "_law_least" false 27 "turn" (nth (bodyOf "_law_least" false) 2) ls σ (at_ Φ tn "_law_least" false 27 3) KR
noncomputable def lsF2 (ls : List MV) (σ : St) : Option (MV × Fld) := fk Φ tn "_law_least" false 25 "turn" (nth (bodyOf "_law_least" false) 4) ls σ (at_ Φ tn "_law_least" false 25 5) KR
noncomputable def signS : PySem.Str := "abcdefghijklmnopqrstuvwxyzæøåêòóô'"
theorem ls1_nil (σ : St) : lsF1 Φ tn [] σ = at_ Φ tn "_law_least" false 27 3 σ := by kernel_rfl
theorem ls1_cons (o : Option MV) : lsF1 Φ tn (v :: ls) ⟨lsR n z ct o, φ⟩ = bif decide (ct ≤ n) then gd (fits ct && fits 26) (lsF1 Φ tn ls ⟨lsR (n - ct) (z + 1) (ct * 26) (some v), φ⟩) else at_ Φ tn "_law_least" false 27 3 ⟨lsR n z ct (some v), φ⟩ := by
  cases o
  · kernel_rfl
  · kernel_rfl
theorem a_ls3 : at_ Φ tn "_law_least" false 27 3 ⟨lsR n z ct (some v), φ⟩ = gd (fits z) (gd (fits 0 && fits z && ((1 : Int) == 1 || (1 : Int) == -1)) (lsF2 Φ tn (rangeL 0 z 1) ⟨lsR2 n z ct v "", φ⟩)) := by kernel_rfl
theorem ls2_nil : lsF2 Φ tn [] ⟨lsR2 n z ct v w, φ⟩ = some (.str w, φ) := by kernel_rfl
theorem ls2_cons (u : MV) : lsF2 Φ tn (v :: ls) ⟨lsR2 n z ct u w, φ⟩ = gd (inB signS (n.fmod 26)) (gd (addB (sg signS (n.fmod 26)) w) (lsF2 Φ tn ls ⟨lsR2 (n.fdiv 26) z ct v (sg signS (n.fmod 26) ++ w), φ⟩)) := by kernel_rfl
noncomputable def sixL : List MV := [.int 0, .int 1, .int 2, .int 3, .int 4, .int 5]
theorem least_it : evE TT Φ (namesOf "_law_least" false) (lsR n 0 1 none) depth φ (forI (nth (bodyOf "_law_least" false) 2)) = some (.range 0 6 1, φ) := by kernel_rfl
theorem r_least0 : run Φ tn "_law_least" false [.int n] φ = at_ Φ tn "_law_least" false 28 2 ⟨lsR n 0 1 none, φ⟩ := by kernel_rfl
theorem r_least : run Φ tn "_law_least" false [.int n] φ = lsF1 Φ tn sixL ⟨lsR n 0 1 none, φ⟩ := by
  rw [r_least0]
  unfold at_
  rw [drop_nth (by decide +kernel)]
  refine (for_items (x := "turn") (L := sixL) (by kernel_rfl) (by kernel_rfl) (least_it Φ φ n) (by kernel_rfl)).trans ?_
  have : ∀ L : List MV, forK "turn" (fun σ kn kb kr ke => exK TT Φ tn (namesOf "_law_least" false) 27 σ (forB (nth (bodyOf "_law_least" false) 2)) kn kb kr ke) L ⟨lsR n 0 1 none, φ⟩ (fun σ' => exK TT Φ tn (namesOf "_law_least" false) 27 σ' ((bodyOf "_law_least" false).drop 3) KN KB0 KR KE) KR = lsF1 Φ tn L ⟨lsR n 0 1 none, φ⟩ := fun L => by kernel_rfl
  exact this sixL
end Nor
end

section
open PySem PySem.W
set_option Elab.async false
set_option maxRecDepth 100000
namespace Nor
variable (Φ : CallT) (tn : Nat) (φ : Fld) (w s : PySem.Str) (n z : Int) (v : MV) (ls l P : List MV)

noncomputable def partsL : List MV := ((((((gl "_law_main" ++ chars signS) ++ gl "_law_third") ++ gl "_law_pairs") ++ gl "_law_stays") ++ gl "_law_falls") ++ gl "_law_begin")
noncomputable def wdR (l P : List MV) (z : Int) (w : PySem.Str) (o : Option (Int × Int × MV)) : Fld := ("script", .list l) :: ("parts", .list P) :: ("size", .int z) :: ("word", .str w) :: (match o with
  | none => []
  | some (n, k, v) => [("number", .int n), ("k", .int k), ("part", v)])
noncomputable def wdN : List (PySem.Str × NameKind) := namesOf "_law_word" false
noncomputable def wdS : Stmt := nth (bodyOf "_law_word" false) 3
noncomputable def wdF (ls : List MV) (σ : St) : Option (MV × Fld) := fk Φ tn "_law_word" false 26 "number" wdS ls σ (at_ Φ tn "_law_word" false 26 4) KR
noncomputable def wdC (ls : List MV) (σ : St) : Option (MV × Fld) := exK TT Φ tn wdN 24 σ ((forB wdS).drop 2) (wdF Φ tn ls) (at_ Φ tn "_law_word" false 26 4) KR (fun _ _ => none)
theorem wd_nil (o : Option (Int × Int × MV)) : wdF Φ tn [] ⟨wdR l P z w o, φ⟩ = some (.str w, φ) := by
  cases o
  · kernel_rfl
  · kernel_rfl
theorem wd_cons (o : Option (Int × Int × MV)) : wdF Φ tn (.int n :: ls) ⟨wdR l P z w o, φ⟩ =
    gd (!(z == 0)) (bif decide (n.fmod z < P.length) then gd (decide (0 ≤ n.fmod z) && decide (n.fmod z < P.length)) ((P[(n.fmod z).toNat]?).bind fun v => wdC Φ tn ls ⟨wdR l P z w (some (n, n.fmod z, v)), φ⟩)
    else gd (!(z == 0)) (gd (decide (0 ≤ 32 + (n.fdiv z).fmod 1000) && decide (32 + (n.fdiv z).fmod 1000 ≤ 1000000)) (wdC Φ tn ls ⟨wdR l P z w (some (n, n.fmod z, .str ⟨#[(32 + (n.fdiv z).fmod 1000).toNat]⟩)), φ⟩))) := by
  cases o
  · kernel_rfl
  · kernel_rfl
theorem wd_C (k : Int) : wdC Φ tn ls ⟨wdR l P z w (some (n, k, .str s)), φ⟩ =
    bif decide ((w.length : Int) + s.length ≤ 26) then gd (addB w s) (wdF Φ tn ls ⟨wdR l P z (w ++ s) (some (n, k, .str s)), φ⟩) else wdF Φ tn ls ⟨wdR l P z w (some (n, k, .str s)), φ⟩ := by kernel_rfl
theorem word_it : evE TT Φ wdN (wdR l P z w none) depth φ (forI wdS) = some (.list (cut MV l 0 (some 20)), φ) := by kernel_rfl
theorem a_word3 : at_ Φ tn "_law_word" false 27 3 ⟨wdR l P z w none, φ⟩ = wdF Φ tn (cut MV l 0 (some 20)) ⟨wdR l P z w none, φ⟩ := by
  unfold at_
  rw [drop_nth (by decide +kernel)]
  refine (for_known (x := "number") (by kernel_rfl) (by kernel_rfl) (word_it Φ φ w z l P)).trans ?_
  have : ∀ L : List MV, forK "number" (fun σ kn kb kr ke => exK TT Φ tn (namesOf "_law_word" false) 26 σ (forB (nth (bodyOf "_law_word" false) 3)) kn kb kr ke) L ⟨wdR l P z w none, φ⟩ (fun σ' => exK TT Φ tn (namesOf "_law_word" false) 26 σ' ((bodyOf "_law_word" false).drop 4) KN KB0 KR KE) KR = wdF Φ tn L ⟨wdR l P z w none, φ⟩ := fun L => by kernel_rfl
  exact this _
theorem r_lawWord : run Φ tn "_law_word" false [.list l] φ = at_ Φ tn "_law_word" false 27 3 ⟨wdR l partsL 102 "" none, φ⟩ := by kernel_rfl
end Nor
end

section
open PySem PySem.W
set_option Elab.async false
set_option maxRecDepth 100000
namespace Nor
variable (Φ : CallT) (tn : Nat) (φ : Fld) (h s w : PySem.Str) (n : Int) (v : MV) (ls l : List MV) (cur : PySem.Str) (c lim lb b k p : Int)

noncomputable def ON : St → Option (Out × St) := fun σ => some (.next, σ)
noncomputable def OB : St → Option (Out × St) := fun σ => some (.brk, σ)
noncomputable def OR : MV → St → Option (Out × St) := fun v σ => some (.ret v, σ)
noncomputable def OE : PySem.Str → St → Option (Out × St) := fun c σ => some (.exc c, σ)
/-- the law from its statement i on (behind the first) -/
noncomputable def lw (n i : Nat) (σ : St) : Option (Out × St) := exK TT Φ tn lawDef.names n σ (lawDef.body.tail.drop i) ON OB OR OE
theorem lw_exS (σ : St) : lw Φ turns 30 0 σ = exS TT Φ lawDef.names depth σ lawDef.body.tail := by
  unfold lw
  rw [exK_eq, List.drop_zero]
  show outK ON OB OR OE (exS TT Φ lawDef.names depth σ lawDef.body.tail) = _
  unfold outK
  cases exS TT Φ lawDef.names depth σ lawDef.body.tail with
  | none => rfl
  | some x => obtain ⟨o, σ'⟩ := x; cases o <;> rfl
/-- the fields, before or behind the first word -/
noncomputable def flo (cur : PySem.Str) (c lim lb b k : Int) (o : Option Int) : Fld := match o with
  | none => fl6 cur c lim lb b k
  | some p => fld cur c lim lb b k p
noncomputable def lwR (l : List MV) (h : PySem.Str) (o : Option (MV × MV)) : Fld := ("script", .list l) :: ("one", .self) :: ("here", .str h) :: (match o with
  | none => []
  | some (v, s) => [("turn", v), ("stem", s)])
noncomputable def lwS : Stmt := nth lawDef.body.tail 1
noncomputable def lwF (ls : List MV) (σ : St) : Option (Out × St) := forK "turn" (fun σ kn kb kr ke => exK TT Φ tn lawDef.names 28 σ (forB lwS) kn kb kr ke) ls σ (lw Φ tn 28 2) OR
noncomputable def lwA (ls : List MV) (n i : Nat) (σ : St) : Option (Out × St) := exK TT Φ tn lawDef.names n σ ((forB lwS).drop i) (lwF Φ tn ls) (lw Φ tn 28 2) OR (fun _ _ => none)
theorem l_here : lw Φ tn 30 0 ⟨[("script", .list l), ("one", .self)], φ⟩ = (Φ "_law_word" [.list l] φ).bind fun q => lw Φ tn 29 1 ⟨[("script", .list l), ("one", .self), ("here", q.1)], q.2⟩ := by kernel_rfl
theorem l_nil (σ : St) : lwF Φ tn [] σ = lw Φ tn 28 2 σ := by kernel_rfl
theorem l_cons (o : Option (MV × MV)) (op : Option Int) : lwF Φ tn (v :: ls) ⟨lwR l h o, flo cur c lim lb b k op⟩ = (Φ "stemWord" [.self, .str h] (flo cur c lim lb b k op)).bind fun q => lwA Φ tn ls 27 1 ⟨lwR l h (some (v, q.1)), q.2⟩ := by
  rcases o with _ | ⟨a, x⟩ <;> cases op
  · kernel_rfl
  · kernel_rfl
  · kernel_rfl
  · kernel_rfl
theorem l_1 : lwA Φ tn ls 27 1 ⟨lwR l h (some (v, .str s)), φ⟩ = (Φ "_law_own" [.str h] φ).bind fun q => (cmpMV .NotEq (.bool (s == h)) q.1).bind fun x => (truth x).bind fun y => bif y then some (.ret (.bool false), ⟨lwR l h (some (v, .str s)), q.2⟩) else lwA Φ tn ls 26 2 ⟨lwR l h (some (v, .str s)), q.2⟩ := by kernel_rfl
theorem l_2 : lwA Φ tn ls 26 2 ⟨lwR l h (some (v, .str s)), φ⟩ = bif s == h then lw Φ tn 28 2 ⟨lwR l h (some (v, .str s)), φ⟩ else (Φ "_law_fits" [.str h, .str s] φ).bind fun q => (truth q.1).bind fun y => bif !y then some (.ret (.bool false), ⟨lwR l h (some (v, .str s)), q.2⟩) else lwF Φ tn ls ⟨lwR l s (some (v, .str s)), q.2⟩ := by kernel_rfl
end Nor
end

section
open PySem PySem.W
set_option Elab.async false
set_option maxRecDepth 100000
namespace Nor
variable (Φ : CallT) (tn : Nat) (φ : Fld) (h s w : PySem.Str) (n : Int) (v : MV) (ls l : List MV) (cur : PySem.Str) (c lim lb b k p : Int)

/-- no field hides the method -/
noncomputable def noF (φ : Fld) : Bool := (get "stemWord" φ).isNone
noncomputable def lwL (l : List MV) (h : PySem.Str) (v s u : MV) : Fld := [("script", .list l), ("one", .self), ("here", .str h), ("turn", v), ("stem", s), ("least", u)]
theorem l_least0 (s : MV) : lw Φ tn 28 2 ⟨lwR [] h (some (v, s)), fld cur c lim lb b k p⟩ = (Φ "_law_least" [.int 0] (fld cur c lim lb b k p)).bind fun q => (Φ "stemWord" [.self, q.1] q.2).bind fun r => lw Φ tn 27 3 ⟨lwL [] h v s r.1, r.2⟩ := by kernel_rfl
theorem l_least1 (s : MV) : lw Φ tn 28 2 ⟨lwR (.int n :: l) h (some (v, s)), fld cur c lim lb b k p⟩ = gd (decide ((0 : Int) ≤ 0) && decide ((0 : Int) < ((MV.int n :: l).length : Int))) ((Φ "_law_least" [.int (n.fmod 475931)] (fld cur c lim lb b k p)).bind fun q => (Φ "stemWord" [.self, q.1] q.2).bind fun r => lw Φ tn 27 3 ⟨lwL (.int n :: l) h v s r.1, r.2⟩) := by kernel_rfl
theorem l_3 (s : MV) : lw Φ tn 27 3 ⟨lwL l h v s (.str w), fld cur c lim lb b k p⟩ = (Φ "stemWord" [.self, .str w] (fld cur c lim lb b k p)).bind fun q => (cmpMV .NotEq q.1 (.str w)).bind fun x => (truth x).bind fun y => bif y then some (.ret (.bool false), ⟨lwL l h v s (.str w), q.2⟩) else lw Φ tn 26 4 ⟨lwL l h v s (.str w), q.2⟩ := by kernel_rfl
theorem l_4 (s : MV) : lw Φ tn 26 4 ⟨lwL l h v s (.str w), fld cur c lim lb b k p⟩ = (Φ "stemWord" [.self, .str "aabaa"] (fld cur c lim lb b k p)).bind fun q => gd (noF q.2) ((Φ "stemWord" [.self, .str "aaba"] q.2).bind fun r => gd (noF r.2) ((Φ "stemWord" [.self, .str "aab"] r.2).bind fun t => (cmpMV .Eq (.list [q.1, r.1, t.1]) (.list [.str "aaba", .str "aab", .str "aab"])).bind fun x => some (.ret x, ⟨lwL l h v s (.str w), t.2⟩))) := by kernel_rfl
noncomputable def sixT : List MV := [.int 0, .int 1, .int 2, .int 3, .int 4, .int 5]
theorem law_it : evE TT Φ lawDef.names (lwR l h none) depth φ (forI lwS) = some (.range 0 6 1, φ) := by kernel_rfl
theorem l_loop : lw Φ tn 29 1 ⟨lwR l h none, φ⟩ = lwF Φ tn sixT ⟨lwR l h none, φ⟩ := by
  unfold lw
  rw [drop_nth (by decide +kernel)]
  exact for_items (x := "turn") (L := sixT) (by kernel_rfl) (by kernel_rfl) (law_it Φ φ h l) (by kernel_rfl)
end Nor
end

section
set_option Elab.async false
set_option maxRecDepth 100000
namespace NP
/-! the plain law: words as lists of their signs -/
noncomputable abbrev Wd := List Nat
noncomputable abbrev Tb := List (Wd × Int × Int)

noncomputable def vL : Wd := [97, 101, 105, 111, 117, 121, 230, 248, 229, 234, 242, 243, 244]
noncomputable def sL : Wd := [98, 99, 100, 102, 103, 104, 106, 108, 109, 110, 111, 112, 116, 118, 121, 122]
noncomputable def mainsW : List Wd := [[97], [97, 114], [97, 115], [97, 115, 116], [97, 110, 101], [97, 110, 100, 101], [101], [101, 110], [101, 110, 115], [101, 110, 101], [101, 110, 101, 115], [101, 110, 100, 101], [101, 110, 100, 101, 115], [101, 100, 101], [101, 100, 101, 115], [101, 114], [101, 115], [101, 116], [101, 116, 115], [104, 101, 116], [104, 101, 116, 101, 110], [104, 101, 116, 101, 110, 115], [104, 101, 116, 101, 110, 101], [104, 101, 116, 101, 110, 101, 115], [104, 101, 116, 101, 114], [101, 114, 115], [115]]
noncomputable def mainsAll : List Wd := [[97], [97, 114], [97, 115], [97, 115, 116], [97, 110, 101], [97, 110, 100, 101], [101], [101, 110], [101, 110, 115], [101, 110, 101], [101, 110, 101, 115], [101, 110, 100, 101], [101, 110, 100, 101, 115], [101, 100, 101], [101, 100, 101, 115], [101, 114], [101, 115], [101, 116], [101, 116, 115], [104, 101, 116], [104, 101, 116, 101, 110], [104, 101, 116, 101, 110, 115], [104, 101, 116, 101, 110, 101], [104, 101, 116, 101, 110, 101, 115], [104, 101, 116, 101, 114], [101, 114, 115], [115], [101, 114, 116], [101, 114, 116, 101]]
noncomputable def third : List Wd := [[108, 101, 103], [101, 108, 101, 103], [105, 103], [101, 105, 103], [108, 105, 103], [101, 108, 105, 103], [101, 108, 115], [108, 111, 118], [101, 108, 111, 118], [115, 108, 111, 118], [104, 101, 116, 115, 108, 111, 118]]
noncomputable def pairs : List Wd := [[100, 116], [118, 116]]
noncomputable def stays : List Wd := [[105, 110, 100], [107, 107], [110, 107], [97, 109, 109], [111, 109, 109], [107, 97, 112], [112, 112], [108, 116], [97, 115, 116], [248, 115, 116], [118]]
noncomputable def falls : List Wd := [[115, 107, 97, 112], [104, 97, 118], [103, 105, 118]]
noncomputable def never : List Wd := [[97], [101], [97, 114], [101, 110], [101, 114], [101, 116], [101, 114, 116], [97, 115, 116], [97, 115], [101, 115], [100, 116], [118, 116], [108, 101, 103], [105, 103], [108, 111, 118]]
noncomputable def T0 : Tb := [([], -1, 1), ([105, 110, 100], 0, -1), ([107, 107], 0, -1), ([110, 107], 0, -1), ([97, 109, 109], 0, -1), ([111, 109, 109], 0, -1), ([107, 97, 112], 0, -1), ([115, 107, 97, 112], 6, 1), ([112, 112], 0, -1), ([108, 116], 0, -1), ([97, 115, 116], 0, -1), ([248, 115, 116], 0, -1), ([118], 0, -1), ([104, 97, 118], 12, 1), ([103, 105, 118], 12, 1)]
noncomputable def T1 : Tb := [([97], -1, 1), ([101], -1, 1), ([101, 100, 101], 1, 1), ([97, 110, 100, 101], 1, 1), ([101, 110, 100, 101], 1, 1), ([97, 110, 101], 1, 1), ([101, 110, 101], 1, 1), ([104, 101, 116, 101, 110, 101], 6, 1), ([101, 114, 116, 101], 1, 4), ([101, 110], -1, 1), ([104, 101, 116, 101, 110], 9, 1), ([97, 114], -1, 1), ([101, 114], -1, 1), ([104, 101, 116, 101, 114], 12, 1), ([115], -1, 3), ([97, 115], 14, 1), ([101, 115], 14, 1), ([101, 100, 101, 115], 16, 1), ([101, 110, 100, 101, 115], 16, 1), ([101, 110, 101, 115], 16, 1), ([104, 101, 116, 101, 110, 101, 115], 19, 1), ([101, 110, 115], 14, 1), ([104, 101, 116, 101, 110, 115], 21, 1), ([101, 114, 115], 14, 2), ([101, 116, 115], 14, 1), ([101, 116], -1, 1), ([104, 101, 116], 25, 1), ([101, 114, 116], -1, 4), ([97, 115, 116], -1, 1)]
noncomputable def T2 : Tb := [([100, 116], -1, -1), ([118, 116], -1, -1)]
noncomputable def T3 : Tb := [([108, 101, 103], -1, 1), ([101, 108, 101, 103], 0, 1), ([105, 103], -1, 1), ([101, 105, 103], 2, 1), ([108, 105, 103], 2, 1), ([101, 108, 105, 103], 4, 1), ([101, 108, 115], -1, 1), ([108, 111, 118], -1, 1), ([101, 108, 111, 118], 7, 1), ([115, 108, 111, 118], 7, 1), ([104, 101, 116, 115, 108, 111, 118], 9, 1)]

noncomputable def isV (x : Nat) : Bool := vL.contains x
noncomputable def isS (x : Nat) : Bool := sL.contains x
noncomputable def ends (t e : Wd) : Bool := e.isSuffixOf t
noncomputable def cl (t : Wd) (l : List Wd) : Bool := l.any fun e => ends t e
noncomputable def ers : Wd := [101, 114, 115]
noncomputable def els : Wd := [101, 108, 115]

theorem ends_iff {t e : Wd} : ends t e = true ↔ e <:+ t := List.isSuffixOf_iff_suffix
theorem cl_iff {t : Wd} {l : List Wd} : cl t l = true ↔ ∃ e ∈ l, e <:+ t := by
  unfold cl; rw [List.any_eq_true]; simp only [ends_iff]

/-- the longest entry of a table that closes a text -/
noncomputable def fa : Tb → Wd → Option (Wd × Int)
  | [], _ => none
  | x :: T, g => match fa T g with
    | some y => if ends g x.1 = true ∧ y.1.length < x.1.length then some (x.1, x.2.2) else some y
    | none => if ends g x.1 then some (x.1, x.2.2) else none

noncomputable def Best (T : Tb) (g : Wd) : Option (Wd × Int) → Prop
  | none => ∀ x ∈ T, ¬ x.1 <:+ g
  | some y => (∃ k, (y.1, k, y.2) ∈ T) ∧ y.1 <:+ g ∧ ∀ x ∈ T, x.1 <:+ g → x.1.length ≤ y.1.length

theorem fa_best : ∀ (T : Tb) (g : Wd), Best T g (fa T g)
  | [], g => by intro x hx; cases hx
  | x :: T, g => by
    have ih := fa_best T g
    unfold fa
    cases e : fa T g with
    | none =>
      rw [e] at ih
      dsimp only
      cases h : ends g x.1 with
      | true =>
        rw [if_pos rfl]
        refine ⟨⟨x.2.1, List.mem_cons_self ..⟩, ends_iff.mp h, fun z hz hs => ?_⟩
        cases hz with
        | head => exact Nat.le_refl _
        | tail _ hz => exact absurd hs (ih z hz)
      | false =>
        rw [if_neg (by decide)]
        intro z hz hs
        cases hz with
        | head => rw [ends_iff.mpr hs] at h; cases h
        | tail _ hz => exact ih z hz hs
    | some y =>
      rw [e] at ih
      obtain ⟨⟨k, hk⟩, hs, hm⟩ := ih
      dsimp only
      split
      · rename_i h
        refine ⟨⟨x.2.1, List.mem_cons_self ..⟩, ends_iff.mp h.1, fun z hz hzs => ?_⟩
        cases hz with
        | head => exact Nat.le_refl _
        | tail _ hz => exact Nat.le_trans (hm z hz hzs) (Nat.le_of_lt h.2)
      · rename_i h
        refine ⟨⟨k, List.mem_cons_of_mem _ hk⟩, hs, fun z hz hzs => ?_⟩
        cases hz with
        | head => exact Nat.le_of_not_lt fun l => h ⟨ends_iff.mpr hzs, l⟩
        | tail _ hz => exact hm z hz hzs

theorem sfx_eq {a b g : Wd} (ha : a <:+ g) (hb : b <:+ g) (h : a.length = b.length) : a = b :=
  (List.suffix_of_suffix_length_le ha hb (Nat.le_of_eq h)).eq_of_length h

noncomputable def funT (T : Tb) : Prop := ∀ x ∈ T, ∀ y ∈ T, x.1 = y.1 → x.2.2 = y.2.2
theorem best_uniq {T : Tb} {g : Wd} (F : funT T) : ∀ {o o' : Option (Wd × Int)}, Best T g o → Best T g o' → o = o'
  | none, none, _, _ => rfl
  | none, some y, h, h' => by obtain ⟨⟨k, hk⟩, hs, _⟩ := h'; exact absurd hs (h _ hk)
  | some y, none, h, h' => by obtain ⟨⟨k, hk⟩, hs, _⟩ := h; exact absurd hs (h' _ hk)
  | some (s, r), some (s', r'), ⟨⟨k, hk⟩, hs, hm⟩, ⟨⟨k', hk'⟩, hs', hm'⟩ => by
    have e : s = s' := sfx_eq hs hs' (Nat.le_antisymm (hm' _ hk hs) (hm _ hk' hs'))
    subst e
    have := F _ hk _ hk' rfl
    dsimp only at this
    rw [this]

theorem fun0 : funT T0 := by unfold funT; decide +kernel
theorem fun1 : funT T1 := by unfold funT; decide +kernel
theorem fun2 : funT T2 := by unfold funT; decide +kernel
theorem fun3 : funT T3 := by unfold funT; decide +kernel

/-- the first sign that is no vowel and follows one (behind a flag: was the last a vowel) -/
noncomputable def vc : Wd → Bool → Nat → Option Nat
  | [], _, _ => none
  | x :: r, f, k => if f = true ∧ isV x = false then some k else vc r (isV x) (k + 1)
noncomputable def ap (w : Wd) (k : Nat) : Option Nat := match w with
  | [] => none
  | x :: r => if x = 39 then some k else ap r (k + 1)
noncomputable def startP (w : Wd) : Nat := match ap w 0 with
  | some k => max 3 (k + 1)
  | none => match vc w false 0 with
    | some k => max 3 (k + 1)
    | none => w.length

noncomputable def sOk (w : Wd) : Bool := isS (w.getD (w.length - 2) 0) || (w.getD (w.length - 2) 0 == 114 && w.getD (w.length - 3) 0 != 101) || (w.getD (w.length - 2) 0 == 107 && !isV (w.getD (w.length - 3) 0))
noncomputable def mainP (p : Nat) (w : Wd) : Wd := match fa T1 (w.drop p) with
  | none => w
  | some (e, r) => if r = 1 then w.take (w.length - e.length)
    else if r = 2 then (match fa T0 (w.take (w.length - e.length)) with
      | none => w
      | some (_, q) => if q = 1 then w.take (w.length - e.length) else w)
    else if r = 3 then (if sOk w then w.take (w.length - e.length) else w)
    else w.take (w.length - e.length) ++ [101, 114]
noncomputable def consP (p : Nat) (w : Wd) : Wd := match fa T2 (w.drop p) with
  | none => w
  | some _ => w.take (w.length - 1)
noncomputable def othP (p : Nat) (w : Wd) : Wd := match fa T3 (w.drop p) with
  | none => w
  | some (e, _) => w.take (w.length - e.length)
noncomputable def endQ (w : Wd) : Bool := ends w [39]
noncomputable def aposP (w : Wd) : Wd := if endQ w then w.take (w.length - 1) else w
noncomputable def stemP (w : Wd) : Wd := if w.length < 3 then w else aposP (othP (startP w) (consP (startP w) (mainP (startP w) w)))

noncomputable def sOwn (w : Wd) : Bool := if w.getD (w.length - 2) 0 = 114 then w.getD (w.length - 3) 0 == 101
  else if w.getD (w.length - 2) 0 = 107 then isV (w.getD (w.length - 3) 0) else !isS (w.getD (w.length - 2) 0)
noncomputable def ownP (w : Wd) : Bool := if w.length < 3 then true else if endQ w then false
  else if cl (w.drop (startP w)) never then false
  else if ends (w.drop (startP w)) ers then cl (w.take (w.length - 3)) stays && !cl (w.take (w.length - 3)) falls
  else if ends (w.drop (startP w)) [115] then sOwn w else true

noncomputable def hit (w lost tail m : Wd) : Bool := ends lost m &&
  ((third.contains (lost.take (lost.length - m.length)) && (lost.take (lost.length - m.length) != els || m != []))
  || (lost.take (lost.length - m.length) == [] && !cl tail third && !cl tail pairs)
  || (ends (lost.take (lost.length - m.length)) [116] && cl (w.take (w.length - m.length)) pairs &&
      (third.contains ((lost.take (lost.length - m.length)).take ((lost.take (lost.length - m.length)).length - 1)) || ((lost.take (lost.length - m.length)).take ((lost.take (lost.length - m.length)).length - 1) == [] && !cl tail third))))
noncomputable def onceP (w lost tail : Wd) : Bool := (lost == [116] && ends w [101, 114, 116]) || (lost == [116, 101] && ends w [101, 114, 116, 101]) || ([] :: mainsW).any (hit w lost tail)
noncomputable def fitsP (w s : Wd) : Bool := if w.length ≤ s.length ∨ w.take s.length ≠ s then false
  else if s.length < startP w ∧ (s.length < startP w - 1 ∨ w.getD s.length 0 ≠ 39) then false
  else if w.getD s.length 0 = 39 then onceP w (w.drop (s.length + 1)) ((w.take (s.length + 1)).drop (startP w))
  else !endQ s && onceP w (w.drop s.length) (s.drop (startP w))

/-! the region's start -/
theorem vc_ge : ∀ (w : Wd) (f : Bool) (k j : Nat), vc w f k = some j → k ≤ j ∧ j < k + w.length
  | [], _, _, _, h => by cases h
  | x :: r, f, k, j, h => by
    unfold vc at h
    split at h
    · cases h; simp only [List.length_cons]; omega
    · have := vc_ge r _ _ _ h; simp only [List.length_cons]; omega
theorem ap_ge : ∀ (w : Wd) (k j : Nat), ap w k = some j → k ≤ j ∧ j < k + w.length
  | [], _, _, h => by cases h
  | x :: r, k, j, h => by
    unfold ap at h
    split at h
    · cases h; simp only [List.length_cons]; omega
    · have := ap_ge r _ _ h; simp only [List.length_cons]; omega
theorem start_ge {w : Wd} (h : 3 ≤ w.length) : 3 ≤ startP w ∧ startP w ≤ w.length := by
  unfold startP
  split
  · rename_i k e; have := ap_ge _ _ _ e; omega
  · split
    · rename_i k e; have := vc_ge _ _ _ _ e; omega
    · omega
theorem ap_none : ∀ (w : Wd) (k : Nat), 39 ∉ w → ap w k = none
  | [], _, _ => rfl
  | x :: r, k, h => by
    unfold ap
    rw [if_neg (fun e => h (by rw [e]; exact List.mem_cons_self ..)), ap_none r _ fun m => h (List.mem_cons_of_mem _ m)]
theorem vc_app : ∀ (u v : Wd) (f : Bool) (k j : Nat), vc u f k = some j → vc (u ++ v) f k = some j
  | [], _, _, _, _, h => by cases h
  | x :: r, v, f, k, j, h => by
    unfold vc at h
    rw [List.cons_append]
    unfold vc
    split at h
    · rename_i q; rw [if_pos q]; exact h
    · rename_i q; rw [if_neg q]; exact vc_app r v _ _ _ h

/-! suffixes -/
theorem sfx_take {e w : Wd} (h : e <:+ w) : w = w.take (w.length - e.length) ++ e := by
  obtain ⟨u, rfl⟩ := h
  rw [List.length_append, Nat.add_sub_cancel, List.take_left' rfl]
theorem sfx_drop {e w : Wd} {p : Nat} (h : e <:+ w.drop p) : e <:+ w := h.trans (List.drop_suffix ..)
theorem sfx_len {e w : Wd} {p : Nat} (h : e <:+ w.drop p) (hp : p ≤ w.length) : e.length + p ≤ w.length := by
  have := h.length_le
  rw [List.length_drop] at this
  omega
theorem take_ne {w : Wd} {m : Nat} (h : 0 < m) (h2 : m ≤ w.length) : w.take (w.length - m) ≠ w := fun e => by
  have := congrArg List.length e
  rw [List.length_take] at this
  omega
theorem sfx_both {a b g : Wd} (ha : a <:+ g) (hb : b <:+ g) : a <:+ b ∨ b <:+ a := by
  rcases Nat.le_total a.length b.length with l | l
  · exact .inl (List.suffix_of_suffix_length_le ha hb l)
  · exact .inr (List.suffix_of_suffix_length_le hb ha l)
end NP
end

section
set_option Elab.async false
set_option maxRecDepth 100000
namespace NP

/-! facts of the tables -/
theorem t1_shape : ∀ x ∈ T1, (x.2.2 = 1 ∧ x.1 ∈ mainsW) ∨ (x.2.2 = 2 ∧ x.1 = ers) ∨ (x.2.2 = 3 ∧ x.1 = [115]) ∨ (x.2.2 = 4 ∧ (x.1 = [101, 114, 116] ∨ x.1 = [101, 114, 116, 101])) := by decide +kernel
theorem t1_pos : ∀ x ∈ T1, 0 < x.1.length := by decide +kernel
theorem t3_third : ∀ x ∈ T3, x.1 ∈ third ∧ 0 < x.1.length := by decide +kernel
theorem third_t3 : ∀ e ∈ third, ∃ x ∈ T3, x.1 = e := by decide +kernel
theorem t2_pairs : ∀ x ∈ T2, x.1 ∈ pairs ∧ x.1.length = 2 ∧ [116] <:+ x.1 := by decide +kernel
theorem pairs_t2 : ∀ e ∈ pairs, ∃ x ∈ T2, x.1 = e := by decide +kernel
theorem no39 : ∀ e ∈ third ++ mainsW ++ [[116], [116, 101]], 39 ∉ e := by decide +kernel

/-- what the first step takes -/
theorem main_cases {p : Nat} {w : Wd} (h3 : 3 ≤ p) (hp : p ≤ w.length) :
    (∃ m ∈ ([] :: mainsW), w = mainP p w ++ m ∧ p ≤ (mainP p w).length ∧ (m = [] → ¬ els <:+ w.drop p)) ∨
    (([101, 114, 116] <:+ w.drop p ∧ w = mainP p w ++ [116]) ∨ ([101, 114, 116, 101] <:+ w.drop p ∧ w = mainP p w ++ [116, 101])) ∧ ∃ u, mainP p w = w.take p ++ (u ++ [101, 114]) := by
  have B := fa_best T1 (w.drop p)
  unfold mainP
  cases e : fa T1 (w.drop p) with
  | none =>
    rw [e] at B
    refine .inl ⟨[], List.mem_cons_self .., (List.append_nil _).symm, hp, fun _ he => ?_⟩
    exact B ([115], -1, 3) (by decide +kernel) (List.IsSuffix.trans (by decide +kernel) he)
  | some y =>
    obtain ⟨s, r⟩ := y
    rw [e] at B
    obtain ⟨⟨k, hk⟩, hs, hm⟩ := B
    have sw := sfx_drop hs
    have sl := sfx_len hs hp
    have tk := sfx_take sw
    have pos := t1_pos _ hk
    dsimp only at sl pos
    have len : p ≤ (w.take (w.length - s.length)).length := by rw [List.length_take]; omega
    dsimp only at hs ⊢
    rcases t1_shape _ hk with ⟨h1, h2⟩ | ⟨h1, h2⟩ | ⟨h1, h2⟩ | ⟨h1, h2⟩ <;> dsimp only at h1 h2 <;> subst h1
    · rw [if_pos rfl]
      exact .inl ⟨s, List.mem_cons_of_mem _ h2, tk, len, fun e0 => by rw [e0] at pos; cases pos⟩
    · subst h2
      have nel : ¬ els <:+ w.drop p := fun he => absurd (sfx_eq he hs rfl) (by decide)
      rw [if_neg (by decide), if_pos rfl]
      cases fa T0 (w.take (w.length - ers.length)) with
      | none => exact .inl ⟨[], List.mem_cons_self .., (List.append_nil _).symm, hp, fun _ => nel⟩
      | some y =>
        obtain ⟨_, q⟩ := y
        dsimp only
        split
        · exact .inl ⟨ers, by decide +kernel, tk, len, fun e0 => by cases e0⟩
        · exact .inl ⟨[], List.mem_cons_self .., (List.append_nil _).symm, hp, fun _ => nel⟩
    · subst h2
      rw [if_neg (by decide), if_neg (by decide), if_pos rfl]
      split
      · exact .inl ⟨[115], by decide +kernel, tk, len, fun e0 => by cases e0⟩
      · rename_i ns
        refine .inl ⟨[], List.mem_cons_self .., (List.append_nil _).symm, hp, fun _ he => ns ?_⟩
        obtain ⟨u, hu⟩ := sfx_drop he
        have l1 : w.length = u.length + 3 := by rw [← hu, List.length_append]; rfl
        have g : w.getD (w.length - 2) 0 = 108 := by
          rw [l1, ← hu, List.getD_eq_getElem?_getD, List.getElem?_append_right (by omega)]
          have : u.length + 3 - 2 - u.length = 1 := by omega
          rw [this]; rfl
        unfold sOk
        rw [g]
        have : isS 108 = true := by decide +kernel
        rw [this]; rfl
    · rw [if_neg (by decide), if_neg (by decide), if_neg (by decide)]
      refine .inr ⟨?_, ?_⟩
      · rcases h2 with h2 | h2 <;> subst h2
        · exact .inl ⟨hs, by rw [List.append_assoc]; exact tk⟩
        · exact .inr ⟨hs, by rw [List.append_assoc]; exact tk⟩
      · refine ⟨(w.take (w.length - s.length)).drop p, ?_⟩
        rw [← List.append_assoc]
        congr 1
        have z := List.take_append_drop p (w.take (w.length - s.length))
        rw [List.take_take, Nat.min_eq_left (by omega)] at z
        exact z.symm

theorem drop_app_len {a b : Wd} : (a ++ b).drop a.length = b := List.drop_left' rfl

/-- what the second step takes -/
theorem cons_cases {p : Nat} (w : Wd) (hp : p ≤ w.length) : (consP p w = w ∧ cl (w.drop p) pairs = false) ∨ (w = consP p w ++ [116] ∧ cl w pairs = true ∧ cl (w.drop p) pairs = true ∧ p ≤ (consP p w).length) := by
  have B := fa_best T2 (w.drop p)
  unfold consP
  cases e : fa T2 (w.drop p) with
  | none =>
    rw [e] at B
    refine .inl ⟨rfl, Bool.eq_false_iff.mpr fun h => ?_⟩
    obtain ⟨x, hx, hs⟩ := cl_iff.mp h
    obtain ⟨y, hy, rfl⟩ := pairs_t2 _ hx
    exact B y hy hs
  | some y =>
    obtain ⟨s, r⟩ := y
    rw [e] at B
    obtain ⟨⟨k, hk⟩, hs, hm⟩ := B
    obtain ⟨h1, h2, h3⟩ := t2_pairs _ hk
    dsimp only at h1 h2 h3 hs ⊢
    have sl := sfx_len hs hp
    exact .inr ⟨sfx_take (h3.trans (sfx_drop hs)), cl_iff.mpr ⟨s, h1, sfx_drop hs⟩, cl_iff.mpr ⟨s, h1, hs⟩, by rw [List.length_take]; omega⟩

/-- what the third step takes -/
theorem oth_cases {p : Nat} (w : Wd) (hp : p ≤ w.length) : (othP p w = w ∧ cl (w.drop p) third = false) ∨ ∃ e ∈ third, w = othP p w ++ e ∧ e <:+ w.drop p ∧ p ≤ (othP p w).length ∧ e ≠ [] := by
  have B := fa_best T3 (w.drop p)
  unfold othP
  cases e : fa T3 (w.drop p) with
  | none =>
    rw [e] at B
    refine .inl ⟨rfl, Bool.eq_false_iff.mpr fun h => ?_⟩
    obtain ⟨x, hx, hs⟩ := cl_iff.mp h
    obtain ⟨y, hy, rfl⟩ := third_t3 _ hx
    exact B y hy hs
  | some y =>
    obtain ⟨s, r⟩ := y
    rw [e] at B
    obtain ⟨⟨k, hk⟩, hs, hm⟩ := B
    obtain ⟨h1, h2⟩ := t3_third _ hk
    dsimp only at h1 h2 hs ⊢
    have sl := sfx_len hs hp
    exact .inr ⟨s, h1, sfx_take (sfx_drop hs), hs, by rw [List.length_take]; omega, fun e0 => by rw [e0] at h2; cases h2⟩

theorem apos_cases (w : Wd) : (aposP w = w ∧ endQ w = false) ∨ (w = aposP w ++ [39]) := by
  unfold aposP
  cases h : endQ w with
  | false => exact .inl ⟨by rw [if_neg (by decide)], rfl⟩
  | true =>
    rw [if_pos rfl]
    exact .inr (sfx_take (ends_iff.mp h))

/-- what falls, but for the apostrophe -/
theorem once_ok {p : Nat} {w : Wd} (h3 : 3 ≤ p) (hp : p ≤ w.length) :
    ∃ lost, w = othP p (consP p (mainP p w)) ++ lost ∧ 39 ∉ lost ∧ p ≤ (othP p (consP p (mainP p w))).length ∧ onceP w lost ((othP p (consP p (mainP p w))).drop p) = true := by
  rcases main_cases h3 hp with ⟨m, hm, hw, hl, hels⟩ | ⟨hw, u, hu⟩
  · generalize mainP p w = w1 at hw hl
    have n39 : 39 ∉ m := by
      cases hm with
      | head => exact List.not_mem_nil
      | tail _ hm => exact no39 _ (by simp only [List.mem_append]; exact .inl (.inr hm))
    have fin : ∀ {w3 e t : Wd}, w = w3 ++ (e ++ t ++ m) → 39 ∉ e → 39 ∉ t → p ≤ w3.length → hit w (e ++ t ++ m) (w3.drop p) m = true → ∃ lost, w = w3 ++ lost ∧ 39 ∉ lost ∧ p ≤ w3.length ∧ onceP w lost (w3.drop p) = true := fun {w3 e t} a b c d f => by
      refine ⟨e ++ t ++ m, a, ?_, d, ?_⟩
      · simp only [List.mem_append]; exact fun z => z.elim (fun z => z.elim b c) n39
      · unfold onceP
        rw [Bool.or_eq_true]
        exact .inr (List.any_eq_true.mpr ⟨m, hm, f⟩)
    have tw1 : w.take (w.length - m.length) = w1 := by
      rw [hw, List.length_append, Nat.add_sub_cancel, List.take_left' rfl]
    have en : ∀ e : Wd, ends (e ++ m) m = true := fun e => ends_iff.mpr (List.suffix_append ..)
    have tk : ∀ e : Wd, (e ++ m).take ((e ++ m).length - m.length) = e := fun e => by rw [List.length_append, Nat.add_sub_cancel, List.take_left' rfl]
    rcases cons_cases w1 hl with ⟨c1, c2⟩ | ⟨c1, c2, c3, c4⟩
    · rw [c1]
      rcases oth_cases w1 hl with ⟨o1, o2⟩ | ⟨e, he, o1, o2, o3, o4⟩
      · rw [o1]
        refine fin (w3 := w1) (e := []) (t := []) hw List.not_mem_nil List.not_mem_nil hl ?_
        unfold hit
        simp only [List.nil_append, List.append_nil] at en tk ⊢
        have : ends m m = true := ends_iff.mpr List.suffix_rfl
        rw [this, Nat.sub_self, List.take_zero, o2, c2]
        simp
      · have hw' : w = othP p w1 ++ (e ++ [] ++ m) := by rw [List.append_nil, ← List.append_assoc, ← o1]; exact hw
        refine fin hw' (no39 _ (by simp only [List.mem_append]; exact .inl (.inl he))) List.not_mem_nil o3 ?_
        unfold hit
        rw [List.append_nil, en, tk]
        have c : third.contains e = true := List.contains_iff_mem.mpr he
        have c' : (e != els || m != []) = true := by
          cases q : e != els with
          | true => rfl
          | false =>
            have q' : e = els := by simpa using q
            cases m with
            | cons _ _ => rfl
            | nil =>
              refine absurd ?_ (hels rfl)
              rw [List.append_nil] at hw
              rw [hw, ← q']; exact o2
        rw [c, c']; rfl
    · have l2 : (consP p w1).length + 1 = w1.length := by
        have := congrArg List.length c1
        rw [List.length_append] at this
        exact this.symm
      have ce : ∀ e : Wd, ends (e ++ [116]) [116] = true := fun e => ends_iff.mpr (List.suffix_append ..)
      have ct : ∀ e : Wd, (e ++ [116]).take ((e ++ [116]).length - 1) = e := fun e => by rw [List.length_append]; exact List.take_left' rfl
      rcases oth_cases (consP p w1) c4 with ⟨o1, o2⟩ | ⟨e, he, o1, o2, o3, o4⟩
      · rw [o1]
        have hw' : w = consP p w1 ++ ([] ++ [116] ++ m) := by rw [List.nil_append, ← List.append_assoc, ← c1]; exact hw
        refine fin hw' List.not_mem_nil (by decide) c4 ?_
        unfold hit
        rw [en, tk, ce, tw1, c2, ct, o2]
        simp
      · have hw' : w = othP p (consP p w1) ++ (e ++ [116] ++ m) := by rw [← List.append_assoc, ← List.append_assoc, ← o1, ← c1]; exact hw
        refine fin hw' (no39 _ (by simp only [List.mem_append]; exact .inl (.inl he))) (by decide) o3 ?_
        unfold hit
        have c : third.contains e = true := List.contains_iff_mem.mpr he
        rw [en, tk, ce, tw1, c2, ct, c]
        simp
  · have lp : (w.take p).length = p := by rw [List.length_take]; omega
    have e1 : (mainP p w).drop p = u ++ [101, 114] := by
      rw [hu]; exact List.drop_left' lp
    have nb : ∀ l : List Wd, (∀ e ∈ l, e ≠ [] ∧ ¬ [114] <:+ e) → cl (u ++ [101, 114]) l = false := fun l hl => Bool.eq_false_iff.mpr fun h => by
      obtain ⟨e, he, hs⟩ := cl_iff.mp h
      have q : [114] <:+ u ++ [101, 114] := ⟨u ++ [101], by simp⟩
      rcases sfx_both q hs with z | z
      · exact (hl e he).2 z
      · obtain ⟨v, hv⟩ := z
        cases v with
        | nil => exact (hl e he).2 (by rw [← hv]; exact List.suffix_rfl)
        | cons a v =>
          have := congrArg List.length hv
          simp only [List.length_append, List.length_cons, List.length_nil] at this
          exact (hl e he).1 (List.eq_nil_of_length_eq_zero (by omega))
    have l1 : p ≤ (mainP p w).length := by rw [hu, List.length_append, lp]; omega
    have c1 : consP p (mainP p w) = mainP p w := by
      rcases cons_cases (mainP p w) l1 with c | c
      · exact c.1
      · rw [e1, nb _ (by decide +kernel)] at c
        exact absurd c.2.2.1 (by decide)
    rw [c1]
    have o1 : othP p (mainP p w) = mainP p w := by
      rcases oth_cases (mainP p w) l1 with c | ⟨e, he, _, hs, _⟩
      · exact c.1
      · rw [e1] at hs
        have := nb third (by decide +kernel)
        rw [cl_iff.mpr ⟨e, he, hs⟩] at this
        cases this
    rw [o1]
    rcases hw with ⟨h1, h2⟩ | ⟨h1, h2⟩
    · refine ⟨_, h2, by decide, l1, ?_⟩
      unfold onceP
      rw [ends_iff.mpr (sfx_drop h1)]; rfl
    · refine ⟨_, h2, by decide, l1, ?_⟩
      unfold onceP
      rw [ends_iff.mpr (sfx_drop h1)]; rfl

theorem stem_fits {w : Wd} (hne : stemP w ≠ w) : fitsP w (stemP w) = true := by
  have h3 : 3 ≤ w.length := Nat.le_of_not_lt fun h => hne (by unfold stemP; rw [if_pos h])
  obtain ⟨p3, pl⟩ := start_ge h3
  have es : stemP w = aposP (othP (startP w) (consP (startP w) (mainP (startP w) w))) := by unfold stemP; rw [if_neg (by omega)]
  obtain ⟨lost, hw, n39, hl, ho⟩ := once_ok p3 pl
  rw [es] at hne ⊢
  generalize othP (startP w) (consP (startP w) (mainP (startP w) w)) = w3 at hw hl ho hne
  unfold fitsP
  rcases apos_cases w3 with ⟨a1, a2⟩ | a1
  · rw [a1] at hne ⊢
    cases lost with
    | nil => rw [List.append_nil] at hw; exact absurd hw.symm hne
    | cons x r =>
      have t1 : w.take w3.length = w3 := by
        conv => lhs; rw [hw]
        exact List.take_left' rfl
      have d1 : w.drop w3.length = x :: r := by
        conv => lhs; rw [hw]
        exact List.drop_left' rfl
      have l1 : w.length = w3.length + (r.length + 1) := by conv => lhs; rw [hw]
                                                            simp
      have g1 : w.getD w3.length 0 = x := by
        conv => lhs; rw [hw]
        rw [List.getD_eq_getElem?_getD, List.getElem?_append_right (Nat.le_refl _), Nat.sub_self]; rfl
      rw [if_neg (fun h => h.elim (by omega) fun h => h t1), if_neg (by omega), g1, if_neg (fun e => n39 (by rw [e]; exact List.mem_cons_self ..)), a2, d1, ho]; rfl
  · generalize aposP w3 = s at a1 hne
    have l3 : w3.length = s.length + 1 := by rw [a1, List.length_append]; rfl
    have l1 : w.length = s.length + 1 + lost.length := by rw [← l3]; conv => lhs; rw [hw]
                                                          simp
    have t1 : w.take s.length = s := by
      rw [hw, a1, List.append_assoc]
      exact List.take_left' rfl
    have t2 : w.take (s.length + 1) = w3 := by
      rw [← l3]
      conv => lhs; rw [hw]
      exact List.take_left' rfl
    have d1 : w.drop (s.length + 1) = lost := by
      rw [← l3]
      conv => lhs; rw [hw]
      exact List.drop_left' rfl
    have g1 : w.getD s.length 0 = 39 := by
      rw [hw, a1, List.append_assoc, List.getD_eq_getElem?_getD, List.getElem?_append_right (Nat.le_refl _), Nat.sub_self]; rfl
    rw [if_neg (fun h => h.elim (by omega) fun h => h t1), if_neg (by rw [g1]; omega), g1, if_pos rfl, t2, d1, ho]
end NP
end

section
set_option Elab.async false
set_option maxRecDepth 100000
namespace NP

noncomputable def nv1 : List Wd := never.take 10
noncomputable def nv3 : List Wd := [[108, 101, 103], [105, 103], [108, 111, 118]]
theorem never_split : never = nv1 ++ (pairs ++ nv3) := by decide +kernel
theorem cl_app (g : Wd) (l m : List Wd) : cl g (l ++ m) = (cl g l || cl g m) := List.any_append ..
theorem cl_never (g : Wd) : cl g never = (cl g nv1 || (cl g pairs || cl g nv3)) := by rw [never_split, cl_app, cl_app]
theorem third_of : ∀ x ∈ third, (∃ y ∈ nv3, y <:+ x) ∨ x = els := by decide +kernel
theorem of_third : ∀ y ∈ nv3, y ∈ third := by decide +kernel
theorem cl_third (g : Wd) : cl g third = (cl g nv3 || ends g els) := by
  rw [Bool.eq_iff_iff, Bool.or_eq_true, cl_iff, cl_iff, ends_iff]
  constructor
  · rintro ⟨x, hx, hs⟩
    rcases third_of x hx with ⟨y, hy, h⟩ | rfl
    · exact .inl ⟨y, hy, h.trans hs⟩
    · exact .inr hs
  · rintro (⟨y, hy, hs⟩ | h)
    · exact ⟨y, of_third y hy, hs⟩
    · exact ⟨els, by decide +kernel, h⟩
theorem nsfx {g s : Wd} {l : List Wd} (hs : s <:+ g) (hl : ∀ x ∈ l, ¬ x <:+ s ∧ ¬ s <:+ x) : cl g l = false := Bool.eq_false_iff.mpr fun h => by
  obtain ⟨x, hx, h⟩ := cl_iff.mp h
  rcases sfx_both h hs with q | q
  · exact (hl x hx).1 q
  · exact (hl x hx).2 q
theorem nsfx1 {g s x : Wd} (hs : s <:+ g) (hl : ¬ x <:+ s ∧ ¬ s <:+ x) : ends g x = false := Bool.eq_false_iff.mpr fun h => by
  rcases sfx_both (ends_iff.mp h) hs with q | q
  · exact hl.1 q
  · exact hl.2 q
theorem last_of {w : Wd} {a b : Nat} (h : [a, b] <:+ w) : w.getD (w.length - 2) 0 = a := by
  obtain ⟨u, rfl⟩ := h
  rw [List.length_append, List.getD_eq_getElem?_getD, List.getElem?_append_right (by simp)]
  have : u.length + [a, b].length - 2 - u.length = 0 := by simp
  rw [this]; rfl

theorem stem_eq_iff {p : Nat} {w : Wd} (h3 : 3 ≤ p) (hp : p ≤ w.length) : aposP (othP p (consP p (mainP p w))) = w ↔ mainP p w = w ∧ cl (w.drop p) pairs = false ∧ cl (w.drop p) third = false ∧ endQ w = false := by
  have m : p ≤ (mainP p w).length ∧ (mainP p w = w ∨ (mainP p w).length < w.length) := by
    rcases main_cases h3 hp with ⟨m, _, h, l, _⟩ | ⟨h, u, hu⟩
    · refine ⟨l, ?_⟩
      cases m with
      | nil => rw [List.append_nil] at h; exact .inl h.symm
      | cons a b =>
        have := congrArg List.length h
        rw [List.length_append, List.length_cons] at this
        exact .inr (by omega)
    · have l : p ≤ (mainP p w).length := by rw [hu, List.length_append, List.length_take]; omega
      refine ⟨l, .inr ?_⟩
      rcases h with ⟨_, h⟩ | ⟨_, h⟩
      · have := congrArg List.length h
        rw [List.length_append] at this
        simp only [List.length_cons, List.length_nil] at this
        omega
      · have := congrArg List.length h
        rw [List.length_append] at this
        simp only [List.length_cons, List.length_nil] at this
        omega
  have c : ∀ w : Wd, p ≤ w.length → p ≤ (consP p w).length ∧ ((consP p w = w ∧ cl (w.drop p) pairs = false) ∨ ((consP p w).length < w.length ∧ cl (w.drop p) pairs = true)) := fun w hw => by
    rcases cons_cases w hw with ⟨a, b⟩ | ⟨a, _, b, d⟩
    · exact ⟨by rw [a]; exact hw, .inl ⟨a, b⟩⟩
    · have := congrArg List.length a
      rw [List.length_append, List.length_singleton] at this
      exact ⟨d, .inr ⟨by omega, b⟩⟩
  have o : ∀ w : Wd, p ≤ w.length → ((othP p w = w ∧ cl (w.drop p) third = false) ∨ ((othP p w).length < w.length ∧ cl (w.drop p) third = true)) := fun w hw => by
    rcases oth_cases w hw with ⟨a, b⟩ | ⟨e, he, a, b, d, z⟩
    · exact .inl ⟨a, b⟩
    · have := congrArg List.length a
      rw [List.length_append] at this
      have : 0 < e.length := by
        cases e with
        | nil => exact absurd rfl z
        | cons _ _ => simp
      exact .inr ⟨by omega, cl_iff.mpr ⟨e, he, b⟩⟩
  have a : ∀ w : Wd, (aposP w = w ∧ endQ w = false) ∨ ((aposP w).length < w.length ∧ endQ w = true) := fun w => by
    rcases apos_cases w with h | h
    · exact .inl h
    · have := congrArg List.length h
      rw [List.length_append, List.length_singleton] at this
      exact .inr ⟨by omega, ends_iff.mpr (by rw [h]; exact List.suffix_append ..)⟩
  obtain ⟨m1, m2⟩ := m
  obtain ⟨c1, c2⟩ := c _ m1
  have o2 := o _ c1
  have a2 := a (othP p (consP p (mainP p w)))
  have lm : (mainP p w).length ≤ w.length := by
    rcases m2 with h | h
    · rw [h]; exact Nat.le_refl _
    · omega
  have lc : (consP p (mainP p w)).length ≤ (mainP p w).length := by
    rcases c2 with h | h
    · rw [h.1]; exact Nat.le_refl _
    · omega
  have lo : (othP p (consP p (mainP p w))).length ≤ (consP p (mainP p w)).length := by
    rcases o2 with h | h
    · rw [h.1]; exact Nat.le_refl _
    · omega
  have la : (aposP (othP p (consP p (mainP p w)))).length ≤ (othP p (consP p (mainP p w))).length := by
    rcases a2 with h | h
    · rw [h.1]; exact Nat.le_refl _
    · omega
  constructor
  · intro h
    have hl := congrArg List.length h
    have e1 : mainP p w = w := m2.elim id fun q => by omega
    rw [e1] at c2 o2 a2 lc lo la hl
    have e2 := c2.elim id fun q => by omega
    rw [e2.1] at o2 a2 lo la hl
    have e3 := o2.elim id fun q => by omega
    rw [e3.1] at a2 la hl
    have e4 := a2.elim id fun q => by omega
    exact ⟨e1, e2.2, e3.2, e4.2⟩
  · rintro ⟨e1, e2, e3, e4⟩
    have f2 : consP p w = w := (c _ hp).2.elim (·.1) fun q => by rw [e2] at q; cases q.2
    have f3 : othP p w = w := (o _ hp).elim (·.1) fun q => by rw [e3] at q; cases q.2
    have f4 : aposP w = w := (a w).elim (·.1) fun q => by rw [e4] at q; cases q.2
    rw [e1, f2, f3, f4]

theorem t0_shape : ∀ x ∈ T0, (x.2.2 = 1 ∧ (x.1 = [] ∨ x.1 ∈ falls)) ∨ (x.2.2 = -1 ∧ x.1 ∈ stays) := by decide +kernel
theorem stays_t0 : ∀ e ∈ stays, 0 < e.length ∧ ∃ x ∈ T0, x.1 = e := by decide +kernel
theorem falls_t0 : ∀ e ∈ falls, ∃ x ∈ T0, x.1 = e := by decide +kernel
theorem stays_falls : ∀ s ∈ stays, ∀ f ∈ falls, ¬ f <:+ s := by decide +kernel
theorem a0_law (u : Wd) : (∃ s, fa T0 u = some (s, 1) ∧ (cl u stays && !cl u falls) = false) ∨ (∃ s, fa T0 u = some (s, -1) ∧ (cl u stays && !cl u falls) = true) := by
  have B := fa_best T0 u
  cases e : fa T0 u with
  | none => rw [e] at B; exact absurd (List.nil_suffix) (B ([], -1, 1) (by decide +kernel))
  | some y =>
    obtain ⟨s, r⟩ := y
    rw [e] at B
    obtain ⟨⟨k, hk⟩, hs, hm⟩ := B
    dsimp only at hk hs hm
    rcases t0_shape _ hk with ⟨h1, h2⟩ | ⟨h1, h2⟩ <;> dsimp only at h1 h2 <;> subst h1
    · refine .inl ⟨s, rfl, ?_⟩
      rcases h2 with h2 | h2
      · subst h2
        have : cl u stays = false := Bool.eq_false_iff.mpr fun h => by
          obtain ⟨x, hx, hxs⟩ := cl_iff.mp h
          obtain ⟨p, y, hy, rfl⟩ := stays_t0 x hx
          have := hm y hy hxs
          rw [List.length_nil] at this
          omega
        rw [this]; rfl
      · have : cl u falls = true := cl_iff.mpr ⟨s, h2, hs⟩
        rw [this]; simp
    · refine .inr ⟨s, rfl, ?_⟩
      have a : cl u stays = true := cl_iff.mpr ⟨s, h2, hs⟩
      have b : cl u falls = false := Bool.eq_false_iff.mpr fun h => by
        obtain ⟨x, hx, hxs⟩ := cl_iff.mp h
        obtain ⟨y, hy, rfl⟩ := falls_t0 x hx
        exact stays_falls _ h2 _ hx (List.suffix_of_suffix_length_le hxs hs (hm y hy hxs))
      rw [a, b]; rfl

theorem sOwn_eq (w : Wd) : sOwn w = !sOk w := by
  unfold sOwn sOk
  generalize w.getD (w.length - 2) 0 = a
  generalize w.getD (w.length - 3) 0 = b
  by_cases h1 : a = 114
  · subst h1
    have : isS 114 = false := by decide +kernel
    rw [if_pos rfl, this]
    cases h : b == 101 <;> simp [bne, h]
  · rw [if_neg h1]
    by_cases h2 : a = 107
    · subst h2
      have : isS 107 = false := by decide +kernel
      rw [if_pos rfl, this]
      cases isV b <;> simp
    · rw [if_neg h2]
      have : (a == 114) = false := by simpa using h1
      have : (a == 107) = false := by simpa using h2
      simp [*]

theorem t1_never : ∀ x ∈ T1, (x.2.2 = 1 ∨ x.2.2 = 4) → (∃ y ∈ nv1, y <:+ x.1) ∨ [110, 115] <:+ x.1 ∨ [116, 115] <:+ x.1 := by decide +kernel
theorem nv1_t1 : ∀ y ∈ nv1, ∃ x ∈ T1, x.1 = y := by decide +kernel
theorem sOwn_of {w : Wd} {a : Nat} (h : [a, 115] <:+ w) (ha : isS a = true) (h1 : a ≠ 114) (h2 : a ≠ 107) : sOwn w = false := by
  unfold sOwn
  rw [last_of h, if_neg h1, if_neg h2, ha]; rfl

theorem own_eq {w : Wd} (h3 : 3 ≤ w.length) : ownP w = true ↔ mainP (startP w) w = w ∧ cl (w.drop (startP w)) pairs = false ∧ cl (w.drop (startP w)) third = false ∧ endQ w = false := by
  obtain ⟨p3, pl⟩ := start_ge h3
  unfold ownP
  rw [if_neg (by omega)]
  generalize startP w = p at p3 pl
  have B := fa_best T1 (w.drop p)
  rw [cl_never, cl_third]
  unfold mainP
  cases e : fa T1 (w.drop p) with
  | none =>
    rw [e] at B
    have a1 : cl (w.drop p) nv1 = false := Bool.eq_false_iff.mpr fun h => by
      obtain ⟨x, hx, hs⟩ := cl_iff.mp h
      obtain ⟨y, hy, rfl⟩ := nv1_t1 x hx
      exact B y hy hs
    have a2 : ends (w.drop p) ers = false := Bool.eq_false_iff.mpr fun h => B (ers, 14, 2) (by decide +kernel) (ends_iff.mp h)
    have a3 : ends (w.drop p) [115] = false := Bool.eq_false_iff.mpr fun h => B ([115], -1, 3) (by decide +kernel) (ends_iff.mp h)
    have a4 : ends (w.drop p) els = false := Bool.eq_false_iff.mpr fun h => B ([115], -1, 3) (by decide +kernel) (List.IsSuffix.trans (by decide +kernel) (ends_iff.mp h))
    rw [a1, a2, a3, a4]
    cases endQ w <;> cases cl (w.drop p) pairs <;> cases cl (w.drop p) nv3 <;> simp
  | some y =>
    obtain ⟨s, r⟩ := y
    rw [e] at B
    obtain ⟨⟨k, hk⟩, hs, hm⟩ := B
    have sl := sfx_len hs pl
    have pos := t1_pos _ hk
    dsimp only at hk hs hm sl pos ⊢
    have bad : (r = 1 ∨ r = 4) → (if endQ w = true then false else if (cl (w.drop p) nv1 || (cl (w.drop p) pairs || cl (w.drop p) nv3)) = true then false
        else if ends (w.drop p) ers = true then cl (w.take (w.length - 3)) stays && !cl (w.take (w.length - 3)) falls else if ends (w.drop p) [115] = true then sOwn w else true) = false := fun hr => by
      rcases t1_never _ hk hr with ⟨y, hy, hys⟩ | h
      · have : cl (w.drop p) nv1 = true := cl_iff.mpr ⟨y, hy, hys.trans hs⟩
        rw [this]; simp
      · have q : ends (w.drop p) ers = false ∧ ends (w.drop p) [115] = true ∧ sOwn w = false := by
          rcases h with h | h
          · exact ⟨nsfx1 (h.trans hs) (by decide), ends_iff.mpr (List.IsSuffix.trans (by decide) (h.trans hs)), sOwn_of (h.trans (sfx_drop hs)) (by decide +kernel) (by decide) (by decide)⟩
          · exact ⟨nsfx1 (h.trans hs) (by decide), ends_iff.mpr (List.IsSuffix.trans (by decide) (h.trans hs)), sOwn_of (h.trans (sfx_drop hs)) (by decide +kernel) (by decide) (by decide)⟩
        rw [q.1, q.2.1, q.2.2]; simp
    have tn : w.take (w.length - s.length) ≠ w := take_ne pos (by omega)
    rcases t1_shape _ hk with ⟨h1, h2⟩ | ⟨h1, h2⟩ | ⟨h1, h2⟩ | ⟨h1, h2⟩ <;> dsimp only at h1 h2 <;> subst h1
    · rw [bad (.inl rfl), if_pos rfl]
      exact ⟨fun h => Bool.noConfusion h, fun h => absurd h.1 tn⟩
    · subst h2
      have b1 : cl (w.drop p) nv1 = false := nsfx hs (by decide +kernel)
      have b2 : cl (w.drop p) pairs = false := nsfx hs (by decide +kernel)
      have b3 : cl (w.drop p) nv3 = false := nsfx hs (by decide +kernel)
      have b4 : ends (w.drop p) els = false := nsfx1 hs (by decide +kernel)
      have b5 : endQ w = false := nsfx1 (sfx_drop hs) (by decide +kernel)
      rw [b1, b2, b3, b4, b5, ends_iff.mpr hs, if_neg (by decide), if_neg (by decide), if_pos rfl, if_neg (by decide), if_pos rfl]
      have l3 : ers.length = 3 := rfl
      rw [l3] at tn ⊢
      rcases a0_law (w.take (w.length - 3)) with ⟨t, q1, q2⟩ | ⟨t, q1, q2⟩
      · rw [q2, q1]
        dsimp only
        rw [if_pos rfl]
        exact ⟨fun h => Bool.noConfusion h, fun h => absurd h.1 tn⟩
      · rw [q2, q1]
        dsimp only
        rw [if_neg (by decide)]
        simp
    · subst h2
      have b1 : cl (w.drop p) nv1 = false := Bool.eq_false_iff.mpr fun h => by
        obtain ⟨x, hx, hxs⟩ := cl_iff.mp h
        obtain ⟨y, hy, rfl⟩ := nv1_t1 x hx
        have l := hm y hy hxs
        exact (by decide +kernel : ∀ x ∈ nv1, ¬ (x.length ≤ 1 ∧ x <:+ [115])) _ hx ⟨l, List.suffix_of_suffix_length_le hxs hs l⟩
      have b2 : cl (w.drop p) pairs = false := nsfx hs (by decide +kernel)
      have b3 : cl (w.drop p) nv3 = false := nsfx hs (by decide +kernel)
      have b5 : endQ w = false := nsfx1 (sfx_drop hs) (by decide +kernel)
      have b6 : ends (w.drop p) ers = false := Bool.eq_false_iff.mpr fun h => by
        have := hm (ers, 14, 2) (by decide +kernel) (ends_iff.mp h)
        exact absurd this (by decide)
      have b4 : sOk w = false → ends (w.drop p) els = false := fun ok => Bool.eq_false_iff.mpr fun h => by
        have l := last_of (w := w) (a := 108) (b := 115) (List.IsSuffix.trans (by decide +kernel) (sfx_drop (ends_iff.mp h)))
        unfold sOk at ok
        have : isS 108 = true := by decide +kernel
        rw [l, this] at ok
        cases ok
      rw [b1, b2, b3, b5, b6, ends_iff.mpr hs, if_neg (by decide), if_neg (by decide), if_neg (by decide), if_pos rfl, if_neg (by decide), if_neg (by decide), if_pos rfl, sOwn_eq]
      cases ok : sOk w with
      | true =>
        rw [if_pos rfl]
        exact ⟨fun h => Bool.noConfusion h, fun h => absurd h.1 tn⟩
      | false => rw [b4 ok, if_neg (by decide)]; simp
    · rw [bad (.inr rfl), if_neg (by decide), if_neg (by decide), if_neg (by decide)]
      refine ⟨fun h => Bool.noConfusion h, fun h => absurd (congrArg List.length h.1) ?_⟩
      rw [List.length_append, List.length_take]
      rcases h2 with h2 | h2 <;> subst h2 <;> simp only [List.length_cons, List.length_nil] at sl ⊢ <;> omega

theorem stem_own (w : Wd) : (stemP w == w) = ownP w := by
  by_cases h : w.length < 3
  · have : stemP w = w := by unfold stemP; rw [if_pos h]
    unfold ownP
    rw [this, if_pos h]
    simp
  · obtain ⟨p3, pl⟩ := start_ge (Nat.le_of_not_lt h)
    rw [Bool.eq_iff_iff, own_eq (Nat.le_of_not_lt h), ← stem_eq_iff p3 pl, beq_iff_eq]
    unfold stemP
    rw [if_neg h]

/-- a word without apostrophe whose region is one sign at most: its stem is its own -/
theorem stem_twice {w : Wd} (h39 : 39 ∉ w) (hr : w.length ≤ startP w + 1) : stemP (stemP w) = stemP w := by
  by_cases h : w.length < 3
  · have : stemP w = w := by unfold stemP; rw [if_pos h]
    rw [this, this]
  · have h3 := Nat.le_of_not_lt h
    obtain ⟨p3, pl⟩ := start_ge h3
    by_cases he : stemP w = w
    · rw [he, he]
    · have es : stemP w = aposP (othP (startP w) (consP (startP w) (mainP (startP w) w))) := by unfold stemP; rw [if_neg h]
      obtain ⟨lost, hw, n39, hl, ho⟩ := once_ok p3 pl
      rw [es] at he
      rcases apos_cases (othP (startP w) (consP (startP w) (mainP (startP w) w))) with a | a
      · rw [a.1] at he es
        generalize othP (startP w) (consP (startP w) (mainP (startP w) w)) = s at hw hl he es
        have ll := congrArg List.length hw
        rw [List.length_append] at ll
        have l0 : lost.length ≠ 0 := fun q => he (by rw [List.eq_nil_of_length_eq_zero q, List.append_nil] at hw; exact hw.symm)
        have ls : s.length = startP w := by omega
        have h39s : 39 ∉ s := fun q => h39 (by rw [hw]; exact List.mem_append_left _ q)
        rw [es]
        have o : ownP s = true := by
          have st : startP s = s.length := by
            unfold startP
            rw [ap_none _ _ h39s]
            cases q : vc s false 0 with
            | none => rfl
            | some k =>
              have sw : startP w = max 3 (k + 1) := by
                unfold startP
                rw [ap_none _ _ h39, hw, vc_app _ _ _ _ _ q]
              dsimp only
              omega
          have nq : endQ s = false := Bool.eq_false_iff.mpr fun q => h39s ((ends_iff.mp q).subset (List.mem_singleton.mpr rfl))
          unfold ownP
          rw [if_neg (by omega), nq, st, List.drop_length]
          have c1 : cl [] never = false := by decide +kernel
          have c2 : ends [] ers = false := by decide +kernel
          have c3 : ends [] [115] = false := by decide +kernel
          rw [c1, c2, c3]
          simp
        have q := stem_own s
        rw [o] at q
        exact eq_of_beq q
      · refine absurd ?_ h39
        rw [hw, a]
        simp

theorem last_words : stemP [97, 97, 98, 97, 97] = [97, 97, 98, 97] ∧ stemP [97, 97, 98, 97] = [97, 97, 98] ∧ stemP [97, 97, 98] = [97, 97, 98] := by decide +kernel
end NP
end

section
set_option Elab.async false
set_option maxRecDepth 100000
namespace NP

/-- how two words agree from their first sign on: how many signs, and the first difference -/
noncomputable def scan : Wd → Wd → Nat × Int
  | [], _ => (0, 0)
  | _ :: _, [] => (0, -1)
  | x :: e, y :: r => if (y : Int) - x = 0 then ((scan e r).1 + 1, (scan e r).2) else (0, (y : Int) - x)
noncomputable def le : Wd → Wd → Bool
  | [], _ => true
  | _ :: _, [] => false
  | x :: a, y :: b => decide (x < y) || (x == y && le a b)

theorem scan_le : ∀ (e r : Wd), (scan e r).2 < 0 ↔ le e r = false
  | [], _ => by simp [scan, le]
  | _ :: _, [] => by simp [scan, le]
  | x :: e, y :: r => by
    have ih := scan_le e r
    unfold scan le
    by_cases h : (y : Int) - x = 0
    · have : x = y := by omega
      subst this
      rw [if_pos h]
      simp [ih]
    · rw [if_neg h]
      have : (x == y) = false := by simp; omega
      simp [this]
      omega
theorem le_trans : ∀ {a b c : Wd}, le a b = true → le b c = true → le a c = true
  | [], _, _, _, _ => rfl
  | _ :: _, [], _, h, _ => by cases h
  | _ :: _, _ :: _, [], _, h => by cases h
  | x :: a, y :: b, z :: c, h, g => by
    unfold le at h g ⊢
    simp only [Bool.or_eq_true, Bool.and_eq_true, decide_eq_true_iff, beq_iff_eq] at h g ⊢
    rcases h with h | ⟨h, h'⟩ <;> rcases g with g | ⟨g, g'⟩
    · exact .inl (by omega)
    · exact .inl (by omega)
    · exact .inl (by omega)
    · exact .inr ⟨by omega, le_trans h' g'⟩
theorem pre_le : ∀ {a r : Wd}, a <+: r → le a r = true
  | [], _, _ => rfl
  | x :: a, [], h => by simp at h
  | x :: a, y :: r, h => by
    rw [List.cons_prefix_cons] at h
    unfold le
    simp [h.1, pre_le h.2]
theorem pre_mid : ∀ {a b r : Wd}, le a b = true → le b r = true → a <+: r → a <+: b
  | [], _, _, _, _, _ => List.nil_prefix
  | _ :: _, [], _, h, _, _ => by cases h
  | _ :: _, _ :: _, [], _, h, _ => by cases h
  | x :: a, y :: b, z :: r, h, g, q => by
    rw [List.cons_prefix_cons] at q ⊢
    unfold le at h g
    simp only [Bool.or_eq_true, Bool.and_eq_true, decide_eq_true_iff, beq_iff_eq] at h g
    rcases h with h | ⟨h, h'⟩
    · rcases g with g | ⟨g, g'⟩ <;> omega
    · rcases g with g | ⟨g, g'⟩
      · omega
      · exact ⟨h, pre_mid h' g' q.2⟩

/-- both begin with the same m signs -/
noncomputable def agree (m : Nat) (a b : Wd) : Prop := m ≤ a.length ∧ m ≤ b.length ∧ a.take m = b.take m
theorem agree_cons {m x y : Nat} {a b : Wd} : agree (m + 1) (x :: a) (y :: b) ↔ x = y ∧ agree m a b := by
  unfold agree
  simp only [List.length_cons, List.take_succ_cons, List.cons.injEq]
  constructor
  · rintro ⟨h1, h2, h3, h4⟩; exact ⟨h3, by omega, by omega, h4⟩
  · rintro ⟨h3, h1, h2, h4⟩; exact ⟨by omega, by omega, h3, h4⟩
theorem agree_zero (a b : Wd) : agree 0 a b := ⟨Nat.zero_le _, Nat.zero_le _, rfl⟩
theorem agree_nil {m : Nat} {a : Wd} : agree m [] a → m = 0 := fun h => Nat.le_zero.mp h.1
theorem agree_nil' {m : Nat} {a : Wd} : agree m a [] → m = 0 := fun h => Nat.le_zero.mp h.2.1
theorem agree_sym {m : Nat} {a b : Wd} (h : agree m a b) : agree m b a := ⟨h.2.1, h.1, h.2.2.symm⟩
theorem agree_trans {m : Nat} {a b c : Wd} (h : agree m a b) (g : agree m b c) : agree m a c := ⟨h.1, g.2.1, h.2.2.trans g.2.2⟩
theorem agree_le {m n : Nat} {a b : Wd} (h : agree n a b) (l : m ≤ n) : agree m a b := by
  refine ⟨Nat.le_trans l h.1, Nat.le_trans l h.2.1, ?_⟩
  have := congrArg (List.take m) h.2.2
  rwa [List.take_take, List.take_take, Nat.min_eq_left l] at this
theorem scan_agree : ∀ (e r : Wd), agree (scan e r).1 e r
  | [], _ => agree_zero _ _
  | _ :: _, [] => agree_zero _ _
  | x :: e, y :: r => by
    unfold scan
    split
    · exact agree_cons.mpr ⟨by omega, scan_agree e r⟩
    · exact agree_zero _ _
theorem agree_scan : ∀ {m : Nat} {e r : Wd}, agree m e r → m ≤ (scan e r).1
  | 0, _, _, _ => Nat.zero_le _
  | m + 1, [], _, h => by cases agree_nil h
  | m + 1, _ :: _, [], h => by cases agree_nil' h
  | m + 1, x :: e, y :: r, h => by
    obtain ⟨rfl, h'⟩ := agree_cons.mp h
    unfold scan
    rw [if_pos (by omega)]
    exact Nat.succ_le_succ (agree_scan h')
/-- what stands between two that agree, agrees too -/
theorem agree_mid : ∀ {m : Nat} {a k b : Wd}, le a k = true → le k b = true → agree m a b → agree m a k
  | 0, _, _, _, _, _, _ => agree_zero _ _
  | m + 1, [], _, _, _, _, h => by cases agree_nil h
  | m + 1, _ :: _, [], _, h, _, _ => by cases h
  | m + 1, _ :: _, _ :: _, [], _, h, _ => by cases h
  | m + 1, x :: a, y :: k, z :: b, h, g, q => by
    obtain ⟨rfl, q'⟩ := agree_cons.mp q
    unfold le at h g
    simp only [Bool.or_eq_true, Bool.and_eq_true, decide_eq_true_iff, beq_iff_eq] at h g
    rcases h with h | ⟨h, h'⟩
    · rcases g with g | ⟨g, g'⟩ <;> omega
    · rcases g with g | ⟨g, g'⟩
      · omega
      · exact agree_cons.mpr ⟨h, agree_mid h' g' q'⟩
/-- a scan may begin behind what agrees -/
theorem scan_drop : ∀ {m : Nat} {e r : Wd}, agree m e r → scan e r = (m + (scan (e.drop m) (r.drop m)).1, (scan (e.drop m) (r.drop m)).2)
  | 0, _, _, _ => by simp
  | m + 1, [], _, h => by cases agree_nil h
  | m + 1, _ :: _, [], h => by cases agree_nil' h
  | m + 1, x :: e, y :: r, h => by
    obtain ⟨rfl, h'⟩ := agree_cons.mp h
    rw [List.drop_succ_cons, List.drop_succ_cons]
    conv => lhs; unfold scan
    rw [if_pos (by omega), scan_drop h']
    simp only [Prod.mk.injEq, and_true]
    omega
/-- a word's beginnings that the other has too: those no longer than what agrees -/
theorem pre_scan {e r a : Wd} (h : a <+: e) : a <+: r ↔ a.length ≤ (scan e r).1 := by
  constructor
  · intro g
    refine agree_scan ⟨h.length_le, g.length_le, ?_⟩
    rw [List.prefix_iff_eq_take.mp h] at g
    rw [← List.prefix_iff_eq_take.mp h] at g ⊢
    exact List.prefix_iff_eq_take.mp g
  · intro g
    have := agree_le (scan_agree e r) g
    rw [List.prefix_iff_eq_take]
    rw [← this.2.2]
    exact List.prefix_iff_eq_take.mp h

/-! a table, as the search reads it: its texts from their last sign on -/
noncomputable def ent (T : Tb) (i : Nat) : Wd × Int × Int := T.getD i ([], 0, 0)
noncomputable def E (T : Tb) (i : Nat) : Wd := (ent T i).1.reverse
theorem E_mem {T : Tb} {i : Nat} (h : i < T.length) : ent T i ∈ T := by
  unfold ent
  rw [List.getD_eq_getElem?_getD, List.getElem?_eq_getElem h]
  exact List.getElem_mem h
theorem mem_E {T : Tb} {x : Wd × Int × Int} (h : x ∈ T) : ∃ i, i < T.length ∧ ent T i = x := by
  obtain ⟨i, hi, e⟩ := List.getElem_of_mem h
  refine ⟨i, hi, ?_⟩
  unfold ent
  rw [List.getD_eq_getElem?_getD, List.getElem?_eq_getElem hi]
  exact e
structure TabOk (T : Tb) : Prop where
  two : 2 ≤ T.length ∧ T.length ≤ 40
  few : ∀ i, i < T.length → (E T i).length ≤ 10
  sorted : ∀ i, i < T.length → ∀ j, j < T.length → i ≤ j → le (E T i) (E T j) = true
  first : (ent T 0).2.1 < 0
  none : ∀ i, i < T.length → (ent T i).2.1 < 0 → ∀ m, m < T.length → E T m <+: E T i → m = i
  some : ∀ i, i < T.length → 0 ≤ (ent T i).2.1 → (ent T i).2.1.toNat < T.length ∧ E T (ent T i).2.1.toNat <+: E T i ∧ (E T (ent T i).2.1.toNat).length < (E T i).length
  next : ∀ i, i < T.length → 0 ≤ (ent T i).2.1 → ∀ m, m < T.length → E T m <+: E T i → m = i ∨ E T m <+: E T (ent T i).2.1.toNat
theorem ok0 : TabOk T0 := ⟨by decide +kernel, by decide +kernel, by decide +kernel, by decide +kernel, by decide +kernel, by decide +kernel, by decide +kernel⟩
theorem ok1 : TabOk T1 := ⟨by decide +kernel, by decide +kernel, by decide +kernel, by decide +kernel, by decide +kernel, by decide +kernel, by decide +kernel⟩
theorem ok2 : TabOk T2 := ⟨by decide +kernel, by decide +kernel, by decide +kernel, by decide +kernel, by decide +kernel, by decide +kernel, by decide +kernel⟩
theorem ok3 : TabOk T3 := ⟨by decide +kernel, by decide +kernel, by decide +kernel, by decide +kernel, by decide +kernel, by decide +kernel, by decide +kernel⟩

/-- where the search stands at a turn's head -/
structure Head (T : Tb) (R : Wd) (i j ci cj : Nat) (fst : Bool) : Prop where
  top : j ≤ T.length
  lo : (i = 0 ∧ ci = 0) ∨ (le (E T i) R = true ∧ ci = (scan (E T i) R).1)
  hi : (j = T.length ∧ cj = 0) ∨ (j < T.length ∧ le (E T j) R = false ∧ cj = (scan (E T j) R).1)
  gap : (fst = false ∧ i + 2 ≤ j) ∨ (fst = true ∧ i = 0 ∧ j = 1)
/-- where it ends -/
noncomputable def Found (T : Tb) (R : Wd) (i ci : Nat) : Prop :=
  i < T.length ∧ ((le (E T i) R = true ∧ ci = (scan (E T i) R).1 ∧ (i + 1 = T.length ∨ le (E T (i + 1)) R = false)) ∨ (i = 0 ∧ ci = 0 ∧ le (E T 0) R = false))

theorem head_agree {T : Tb} (ok : TabOk T) {R : Wd} {i j ci cj k : Nat} {fst : Bool} (h : Head T R i j ci cj fst) (hk : i ≤ k) (hj : k < j) : agree (min ci cj) (E T k) R := by
  rcases h.lo with ⟨_, rfl⟩ | ⟨l1, l2⟩
  · rw [Nat.zero_min]; exact agree_zero _ _
  · rcases h.hi with ⟨_, rfl⟩ | ⟨h0, h1, h2⟩
    · rw [Nat.min_zero]; exact agree_zero _ _
    · have a : agree (min ci cj) (E T i) R := agree_le (scan_agree _ _) (by omega)
      have b : agree (min ci cj) (E T j) R := agree_le (scan_agree _ _) (by omega)
      have top := h.top
      have c := agree_mid (ok.sorted i (by omega) k (by omega) hk) (ok.sorted k (by omega) j h0 (by omega)) (agree_trans a (agree_sym b))
      exact agree_trans (agree_sym c) a

/-- what the search's end means -/
noncomputable def Chain (T : Tb) (R : Wd) (i ci : Nat) : Prop := i < T.length ∧ (∀ a, a <+: E T i → (a <+: R ↔ a.length ≤ ci)) ∧ ∀ m, m < T.length → E T m <+: R → E T m <+: E T i
theorem found_chain {T : Tb} (ok : TabOk T) {R : Wd} {i ci : Nat} (h : Found T R i ci) : Chain T R i ci ∨ (i = 0 ∧ ci = 0 ∧ 0 < (E T 0).length ∧ ∀ m, m < T.length → ¬ E T m <+: R) := by
  obtain ⟨hi, ⟨h1, h2, h3⟩ | ⟨rfl, rfl, h3⟩⟩ := h
  · refine .inl ⟨hi, fun a ha => by rw [h2]; exact pre_scan ha, fun m hm hp => ?_⟩
    have mi : m ≤ i := Nat.le_of_not_lt fun l => by
      rcases h3 with h3 | h3
      · omega
      · have := le_trans (ok.sorted (i + 1) (by omega) m hm l) (pre_le hp)
        rw [h3] at this; cases this
    exact pre_mid (ok.sorted m hm i hi mi) h1 hp
  · refine .inr ⟨rfl, rfl, ?_, fun m hm hp => ?_⟩
    · cases q : E T 0 with
      | nil => rw [q] at h3; cases h3
      | cons _ _ => simp
    · have := le_trans (ok.sorted 0 hi m hm (Nat.zero_le _)) (pre_le hp)
      rw [h3] at this; cases this
theorem rev_pre {T : Tb} {m : Nat} {g : Wd} : E T m <+: g.reverse ↔ (ent T m).1 <:+ g := List.reverse_prefix
theorem best_none {T : Tb} {g : Wd} (h : ∀ m, m < T.length → ¬ E T m <+: g.reverse) : Best T g none := fun x hx hs => by
  obtain ⟨i, hi, rfl⟩ := mem_E hx
  exact h i hi (rev_pre.mpr hs)
theorem chain_end {T : Tb} {g : Wd} {i ci : Nat} (h : Chain T g.reverse i ci) (hl : (E T i).length ≤ ci) : Best T g (some ((ent T i).1, (ent T i).2.2)) := by
  obtain ⟨hi, h1, h2⟩ := h
  refine ⟨⟨(ent T i).2.1, E_mem hi⟩, rev_pre.mp ((h1 _ List.prefix_rfl).mpr hl), fun x hx hs => ?_⟩
  obtain ⟨m, hm, rfl⟩ := mem_E hx
  have := (h2 m hm (rev_pre.mpr hs)).length_le
  unfold E at this
  simpa using this
theorem chain_none {T : Tb} (ok : TabOk T) {g : Wd} {i ci : Nat} (h : Chain T g.reverse i ci) (hl : ci < (E T i).length) (hs : (ent T i).2.1 < 0) : Best T g none := best_none fun m hm hp => by
  obtain ⟨hi, h1, h2⟩ := h
  have := ok.none i hi hs m hm (h2 m hm hp)
  subst this
  have := (h1 _ List.prefix_rfl).mp hp
  omega
theorem chain_next {T : Tb} (ok : TabOk T) {g : Wd} {i ci : Nat} (h : Chain T g.reverse i ci) (hl : ci < (E T i).length) (hs : 0 ≤ (ent T i).2.1) : Chain T g.reverse (ent T i).2.1.toNat ci ∧ (E T (ent T i).2.1.toNat).length < (E T i).length := by
  obtain ⟨hi, h1, h2⟩ := h
  obtain ⟨o1, o2, o3⟩ := ok.some i hi hs
  refine ⟨⟨o1, fun a ha => h1 a (ha.trans o2), fun m hm hp => ?_⟩, o3⟩
  rcases ok.next i hi hs m hm (h2 m hm hp) with rfl | q
  · have := (h1 _ List.prefix_rfl).mp hp
    omega
  · exact q
end NP
end

section
open PySem PySem.W NP
set_option Elab.async false
set_option maxRecDepth 100000
namespace Nor

/-- a word as a text -/
noncomputable def sW (w : Wd) : PySem.Str := ⟨w.toArray⟩
theorem sW_list (w : Wd) : (sW w).cps.toList = w := rfl
theorem sW_len (w : Wd) : (sW w).length = w.length := by unfold sW PySem.Str.length; exact List.size_toArray ..
theorem sW_app (u v : Wd) : sW u ++ sW v = sW (u ++ v) := by
  show PySem.Str.mk (u.toArray ++ v.toArray) = PySem.Str.mk (u ++ v).toArray
  rw [List.append_toArray]
theorem sW_inj {u v : Wd} (h : sW u = sW v) : u = v := congrArg (fun s => s.cps.toList) h
theorem sW_beq (u v : Wd) : (sW u == sW v) = (u == v) := by
  rw [Bool.eq_iff_iff, beq_iff_eq, beq_iff_eq]
  exact ⟨sW_inj, fun h => by rw [h]⟩
theorem sW_sg (w : Wd) (i : Int) : sg (sW w) i = sW [w.getD i.toNat 0] := rfl
theorem sW_tk (w : Wd) (i : Nat) : tk (sW w) i = sW (w.take i) := by
  show sW ((w.take i).drop 0) = _
  rw [List.drop_zero]
theorem sW_dr (w : Wd) (i : Nat) : dr (sW w) i = sW (w.drop i) := rfl
theorem sW_cut (w : Wd) (a b : Nat) : cutS (sW w) a b = sW ((w.take b).drop a) := rfl
theorem sW_en (s y : Wd) : en (sW s) (sW y) = ends s y := by
  show endsL s y = _
  rw [Bool.eq_iff_iff, ends_iff]
  unfold endsL
  rw [Bool.and_eq_true, decide_eq_true_iff, beq_iff_eq]
  constructor
  · rintro ⟨h, e⟩
    exact List.suffix_iff_eq_drop.mpr e.symm
  · exact fun h => ⟨h.length_le, (List.suffix_iff_eq_drop.mp h).symm⟩
theorem inB_nat {w : Wd} {i : Nat} (h : i < w.length) : inB (sW w) (i : Int) = true := by
  unfold inB
  rw [sW_len, Bool.and_eq_true, decide_eq_true_iff, decide_eq_true_iff]
  omega
theorem fits_nat {a : Nat} (h : a ≤ 1000) : fits (a : Int) = true := by
  unfold fits
  rw [Bool.and_eq_true, decide_eq_true_iff, decide_eq_true_iff]
  omega
theorem okB_nat {a : Nat} (h : a ≤ 1000) : okB (a : Int) = true := by
  unfold okB
  rw [fits_nat h, Bool.and_true, decide_eq_true_iff]
  omega
theorem addB_sW {u v : Wd} (h : u.length + v.length ≤ 1000) : addB (sW u) (sW v) = true := by
  unfold addB
  rw [sW_len, sW_len]
  exact Nat.ble_eq.mpr (Nat.le_trans h (by decide))
theorem contains_sW (l : Wd) (y : Nat) : (l.map fun x => sW [x]).contains (sW [y]) = l.contains y := by
  induction l with
  | nil => rfl
  | cons a l ih => rw [List.map_cons, List.contains_cons, List.contains_cons, ih, sW_beq]; simp
theorem csV_eq : csV = [97, 101, 105, 111, 117, 121, 229, 230, 234, 242, 243, 244, 248].map fun x => sW [x] := by kernel_rfl
theorem csS_eq : csS = sL.map fun x => sW [x] := by kernel_rfl
theorem big_out {l : Wd} {x : Nat} (h : l.all (fun y => decide (y < 256)) = true) (hx : 256 ≤ x) : l.contains x = false := Bool.eq_false_iff.mpr fun c => by
  have := List.all_eq_true.mp h x (List.contains_iff_mem.mp c)
  rw [decide_eq_true_iff] at this
  omega
theorem csV_isV (x : Nat) : csV.contains (sW [x]) = isV x := by
  rw [csV_eq, contains_sW]
  by_cases h : x < 256
  · exact (by decide +kernel : ∀ x, x < 256 → List.contains [97, 101, 105, 111, 117, 121, 229, 230, 234, 242, 243, 244, 248] x = isV x) x h
  · have hx := Nat.le_of_not_lt h
    unfold isV
    rw [big_out (by decide +kernel) hx, big_out (by decide +kernel) hx]
theorem csS_isS (x : Nat) : csS.contains (sW [x]) = isS x := by rw [csS_eq, contains_sW]; rfl

/-- a call is its def's run -/
theorem call_run {l : Nat} {f : PySem.Str} {as : List MV} {φ : Fld} (h : (defTab f (isSelf as)).any (fun d => d.params.length == as.length) = true) : callN TT (l + 1) f as φ = run (callN TT l) turns f (isSelf as) as φ := by
  cases e : defTab f (isSelf as) with
  | none => rw [e] at h; cases h
  | some d =>
    rw [e] at h
    rw [callK e h]
    unfold run
    rw [e]; rfl

variable (l : Nat) (cur s : PySem.Str) (c lim lb b k p : Int)
theorem c_get : callN TT (l + 1) "get_current" [.self] (fld cur c lim lb b k p) = some (.str cur, fld cur c lim lb b k p) := (call_run (by kernel_rfl)).trans (r_get ..)
theorem c_set6 : callN TT (l + 1) "set_current" [.self, .str s] (fl6 cur c lim lb b k) = some (.none, fl6 s 0 s.length 0 0 s.length) := (call_run (by kernel_rfl)).trans (r_set6 ..)
theorem c_set : callN TT (l + 1) "set_current" [.self, .str s] (fld cur c lim lb b k p) = some (.none, fld s 0 s.length 0 0 s.length p) := (call_run (by kernel_rfl)).trans (r_set ..)
theorem c_set0 : callN TT (l + 1) "set_current" [.self, .str s] [] = some (.none, fl6 s 0 s.length 0 0 s.length) := (call_run (by kernel_rfl)).trans (r_set0 ..)

theorem c_inb (w : Wd) (c lb : Nat) (hc : c ≤ w.length) : callN TT (l + 1) "in_grouping_b" [.self, .set csS] (fld (sW w) c lim lb b k p) =
    some (.bool (decide (lb < c) && isS (w.getD (c - 1) 0)), fld (sW w) (if lb < c ∧ isS (w.getD (c - 1) 0) = true then c - 1 else c) lim lb b k p) := by
  refine (call_run (by kernel_rfl)).trans ((r_inb ..).trans ?_)
  by_cases h : lb < c
  · have e : ((c : Int) - 1) = ((c - 1 : Nat) : Int) := by omega
    rw [decide_eq_false (show ¬ ((c : Int) ≤ lb) by omega), e, inB_nat (by omega), sW_sg, csS_isS, Int.toNat_natCast]
    cases isS (w.getD (c - 1) 0) <;> simp [gd, h]
  · rw [decide_eq_true (show ((c : Int) ≤ lb) by omega)]
    simp [h]
theorem c_outb (w : Wd) (c lb : Nat) (hc : c ≤ w.length) : callN TT (l + 1) "out_grouping_b" [.self, .set csV] (fld (sW w) c lim lb b k p) =
    some (.bool (decide (lb < c) && !isV (w.getD (c - 1) 0)), fld (sW w) (if lb < c ∧ isV (w.getD (c - 1) 0) = false then c - 1 else c) lim lb b k p) := by
  refine (call_run (by kernel_rfl)).trans ((r_outb ..).trans ?_)
  by_cases h : lb < c
  · have e : ((c : Int) - 1) = ((c - 1 : Nat) : Int) := by omega
    rw [decide_eq_false (show ¬ ((c : Int) ≤ lb) by omega), e, inB_nat (by omega), sW_sg, csV_isV, Int.toNat_natCast]
    cases isV (w.getD (c - 1) 0) <;> simp [gd, h]
  · rw [decide_eq_true (show ((c : Int) ≤ lb) by omega)]
    simp [h]

/-! the ways over vowels and over the others -/
noncomputable def fv : Wd → Nat → Option Nat
  | [], _ => none
  | x :: r, k => if isV x = true then some k else fv r (k + 1)
noncomputable def fn : Wd → Nat → Option Nat
  | [], _ => none
  | x :: r, k => if isV x = true then fn r (k + 1) else some k
theorem vc_fn : ∀ (w : Wd) (k : Nat), vc w true k = fn w k
  | [], _ => rfl
  | x :: r, k => by
    unfold vc fn
    cases h : isV x with
    | true => rw [if_neg (by simp), if_pos rfl]; exact vc_fn r (k + 1)
    | false => rw [if_pos ⟨rfl, rfl⟩, if_neg (by decide)]
theorem fv_ge : ∀ (w : Wd) (k j : Nat), fv w k = some j → k ≤ j ∧ j < k + w.length
  | [], _, _, h => by cases h
  | x :: r, k, j, h => by
    unfold fv at h
    split at h
    · cases h; simp only [List.length_cons]; omega
    · have := fv_ge r _ _ h; simp only [List.length_cons]; omega
theorem fn_ge : ∀ (w : Wd) (k j : Nat), fn w k = some j → k ≤ j ∧ j < k + w.length
  | [], _, _, h => by cases h
  | x :: r, k, j, h => by
    unfold fn at h
    split at h
    · have := fn_ge r _ _ h; simp only [List.length_cons]; omega
    · cases h; simp only [List.length_cons]; omega
theorem vc_fv : ∀ (w : Wd) (k : Nat), vc w false k = match fv w k with
    | none => none
    | some a => fn (w.drop (a - k + 1)) (a + 1)
  | [], _ => rfl
  | x :: r, k => by
    unfold vc fv
    rw [if_neg (by simp)]
    cases h : isV x with
    | true =>
      rw [if_pos rfl]
      dsimp only
      rw [vc_fn, Nat.sub_self]; rfl
    | false =>
      rw [if_neg (by decide), vc_fv r (k + 1)]
      cases e : fv r (k + 1) with
      | none => rfl
      | some a =>
        have := fv_ge _ _ _ e
        dsimp only
        have : a - k + 1 = (a - (k + 1) + 1) + 1 := by omega
        rw [this, List.drop_succ_cons]
theorem getD_drop {w : Wd} {c : Nat} (h : c < w.length) : w.drop c = w.getD c 0 :: w.drop (c + 1) := by
  rw [List.drop_eq_getElem_cons h, List.getD_eq_getElem?_getD, List.getElem?_eq_getElem h]; rfl

theorem goOut_spec (Φ : CallT) (tn : Nat) (w : Wd) : ∀ (N c : Nat), c ≤ w.length → w.length < N + c →
    wk Φ tn "go_out_grouping" true 29 goOut N ⟨[("self", .self), ("s", .set csV)], fld (sW w) c w.length lb b k p⟩ (fun σ => some (.bool false, σ.φ)) KR KE = match fv (w.drop c) c with
      | none => some (.bool false, fld (sW w) w.length w.length lb b k p)
      | some a => some (.bool true, fld (sW w) a w.length lb b k p)
  | 0, c, h1, h2 => by omega
  | N + 1, c, h1, h2 => by
    rw [w_goOut]
    by_cases h : c < w.length
    · rw [decide_eq_true (show (c : Int) < w.length by omega), inB_nat h, sW_sg, csV_isV, Int.toNat_natCast, getD_drop h]
      unfold fv
      cases isV (w.getD c 0) with
      | true => rfl
      | false =>
        rw [if_neg (by decide)]
        exact goOut_spec Φ tn w N (c + 1) h (by omega)
    · have e : c = w.length := by omega
      subst e
      rw [decide_eq_false (by omega), List.drop_length]; rfl
theorem goIn_spec (Φ : CallT) (tn : Nat) (w : Wd) : ∀ (N c : Nat), c ≤ w.length → w.length < N + c →
    wk Φ tn "go_in_grouping" true 29 goIn N ⟨[("self", .self), ("s", .set csV)], fld (sW w) c w.length lb b k p⟩ (fun σ => some (.bool false, σ.φ)) KR KE = match fn (w.drop c) c with
      | none => some (.bool false, fld (sW w) w.length w.length lb b k p)
      | some a => some (.bool true, fld (sW w) a w.length lb b k p)
  | 0, c, h1, h2 => by omega
  | N + 1, c, h1, h2 => by
    rw [w_goIn]
    by_cases h : c < w.length
    · rw [decide_eq_true (show (c : Int) < w.length by omega), inB_nat h, sW_sg, csV_isV, Int.toNat_natCast, getD_drop h]
      unfold fn
      cases isV (w.getD c 0) with
      | true =>
        rw [if_pos rfl]
        exact goIn_spec Φ tn w N (c + 1) h (by omega)
      | false => rfl
    · have e : c = w.length := by omega
      subst e
      rw [decide_eq_false (by omega), List.drop_length]; rfl
theorem c_goOut (w : Wd) (c : Nat) (h1 : c ≤ w.length) (h2 : w.length ≤ 40) : callN TT (l + 1) "go_out_grouping" [.self, .set csV] (fld (sW w) c w.length lb b k p) = match fv (w.drop c) c with
      | none => some (.bool false, fld (sW w) w.length w.length lb b k p)
      | some a => some (.bool true, fld (sW w) a w.length lb b k p) :=
  (call_run (by kernel_rfl)).trans ((r_goOut ..).trans (goOut_spec _ _ _ _ _ _ w turns c h1 (by unfold turns; omega)))
theorem c_goIn (w : Wd) (c : Nat) (h1 : c ≤ w.length) (h2 : w.length ≤ 40) : callN TT (l + 1) "go_in_grouping" [.self, .set csV] (fld (sW w) c w.length lb b k p) = match fn (w.drop c) c with
      | none => some (.bool false, fld (sW w) w.length w.length lb b k p)
      | some a => some (.bool true, fld (sW w) a w.length lb b k p) :=
  (call_run (by kernel_rfl)).trans ((r_goIn ..).trans (goIn_spec _ _ _ _ _ _ w turns c h1 (by unfold turns; omega)))
end Nor
end

section
open PySem PySem.W NP
set_option Elab.async false
set_option maxRecDepth 100000
namespace Nor
variable (l : Nat) (c lim lb b k p : Int)

theorem c_replace (w s : Wd) (a z : Nat) (ha : a ≤ w.length) (hz : z ≤ w.length) (hw : w.length ≤ 100) (hs : s.length ≤ 100) :
    ∃ c' : Int, callN TT (l + 1) "replace_s" [.self, .int a, .int z, .str (sW s)] (fld (sW w) c lim lb b k p) =
      some (.int ((s.length : Int) - (z - a)), fld (sW (w.take a ++ s ++ w.drop z)) c' (lim + ((s.length : Int) - (z - a))) lb b k p) := by
  have e := (call_run (l := l) (f := "replace_s") (as := [.self, .int a, .int z, .str (sW s)]) (φ := fld (sW w) c lim lb b k p) (by kernel_rfl)).trans (r_replace ..)
  have l1 : (w.take a).length ≤ 100 := by rw [List.length_take]; omega
  have l2 : (w.drop z).length ≤ 100 := by rw [List.length_drop]; omega
  rw [e, gd_true (okB_nat (by omega)), Int.toNat_natCast, Int.toNat_natCast, sW_tk, sW_dr, gd_true (addB_sW (by omega)), gd_true (okB_nat (by omega)), sW_app, gd_true (addB_sW (by rw [List.length_append]; omega)), sW_app, sW_len]
  cases decide ((z : Int) ≤ c)
  · cases decide ((a : Int) < c)
    · exact ⟨c, rfl⟩
    · exact ⟨a, rfl⟩
  · exact ⟨_, rfl⟩

theorem c_slice (w s : Wd) (b : Nat) (hb : b ≤ w.length) (hw : w.length ≤ 100) (hs : s.length ≤ 100) :
    ∃ c' : Int, callN TT (l + 2) "slice_from" [.self, .str (sW s)] (fld (sW w) c w.length lb b w.length p) =
      some (.none, fld (sW (w.take b ++ s)) c' (b + s.length : Nat) lb b (b + s.length : Nat) p) := by
  obtain ⟨c', e⟩ := c_replace l c w.length lb b w.length p w s b w.length hb (Nat.le_refl _) hw hs
  refine ⟨c', (call_run (by kernel_rfl)).trans ((r_slice ..).trans ?_)⟩
  rw [gd_true (by rw [decide_eq_true_iff]; omega), gd_true (by rw [decide_eq_true_iff]; omega), gd_true (by rw [decide_eq_true_iff]; omega), sW_len, gd_true (by rw [decide_eq_true_iff]; omega), e]
  show gd true (at_ _ _ _ _ _ _ _) = _
  rw [gd_true rfl, a_slice, List.drop_length, List.append_nil, sW_len]
  have : ((w.length : Int) + ((s.length : Int) - ((w.length : Int) - (b : Int)))) = (b + s.length : Nat) := by omega
  rw [this]
  have : ((b : Int) + (s.length : Int)) = (b + s.length : Nat) := by omega
  rw [this]
theorem nil_sW : ("" : PySem.Str) = sW [] := by kernel_rfl
theorem er_sW : ("er" : PySem.Str) = sW [101, 114] := by kernel_rfl
theorem c_del (w : Wd) (b : Nat) (hb : b ≤ w.length) (hw : w.length ≤ 100) :
    ∃ c' : Int, callN TT (l + 3) "slice_del" [.self] (fld (sW w) c w.length lb b w.length p) =
      some (.none, fld (sW (w.take b)) c' b lb b b p) := by
  obtain ⟨c', e⟩ := c_slice l c lb p w [] b hb hw (by decide)
  refine ⟨c', (call_run (by kernel_rfl)).trans ((r_del ..).trans ?_)⟩
  rw [nil_sW, e, List.append_nil]; rfl

theorem q_sW : Q = sW [39] := by kernel_rfl
theorem sg_q (w : Wd) (i : Nat) : (sg (sW w) i != Q) = (w.getD i 0 != 39) := by
  rw [sW_sg, q_sW, Int.toNat_natCast]
  unfold bne
  rw [sW_beq]; simp
theorem mrI_spec {R : Type} (Φ : CallT) (tn : Nat) (w : Wd) (ρc : Int) (kn : St → Option R) (kr : MV → St → Option R) (ke : PySem.Str → St → Option R) : ∀ (N c : Nat), c ≤ w.length → w.length < N + c →
    wk Φ tn "r_mark_regions" true 23 mrI N ⟨rho ρc, fld (sW w) c w.length lb b k p⟩ kn kr ke = match ap (w.drop c) c with
      | some j => kn ⟨rho ρc, fld (sW w) (j + 1 : Nat) w.length lb b k p⟩
      | none => ke "lab1" ⟨rho ρc, fld (sW w) w.length w.length lb b k p⟩
  | 0, c, h1, h2 => by omega
  | N + 1, c, h1, h2 => by
    rw [w_mrI]
    dsimp only
    by_cases h : c < w.length
    · have ne : ((c : Int) == (w.length : Int)) = false := by simp; omega
      rw [ne, decide_eq_false (show ¬ (w.length : Int) ≤ c by omega), inB_nat h, sg_q, getD_drop h]
      unfold ap
      by_cases q : w.getD c 0 = 39
      · rw [if_pos q, q]; rfl
      · have : (w.getD c 0 != 39) = true := by simpa using q
        rw [if_neg q, this]
        exact mrI_spec Φ tn w ρc kn kr ke N (c + 1) h (by omega)
    · have e : c = w.length := by omega
      subst e
      have : ((w.length : Int) == (w.length : Int)) = true := by simp
      rw [decide_eq_true (Int.le_refl _), List.drop_length, this]; rfl

theorem fin_spec (w : Wd) (q : Nat) (h : 3 ≤ w.length → max 3 q = startP w) : ∃ p' : Int, mrFin (sW w) 0 w.length lb b k q = some (.bool (decide (3 ≤ w.length)), fld (sW w) 0 w.length lb b k p') ∧ (3 ≤ w.length → p' = startP w) := by
  unfold mrFin
  by_cases h3 : 3 ≤ w.length
  · have := h h3
    rw [decide_eq_false (show ¬ (w.length : Int) < 0 + 3 by omega), decide_eq_true h3]
    by_cases hq : 3 ≤ q
    · rw [decide_eq_true (show (0 + 3 : Int) ≤ q by omega)]
      exact ⟨q, rfl, fun _ => by omega⟩
    · rw [decide_eq_false (show ¬ (0 + 3 : Int) ≤ q by omega)]
      exact ⟨_, rfl, fun _ => by omega⟩
  · rw [decide_eq_true (show (w.length : Int) < 0 + 3 by omega), decide_eq_false h3]
    exact ⟨_, rfl, fun q => absurd q h3⟩

theorem mrTest_f (Φ : CallT) (tn n i : Nat) (v : Int) (φ : Fld) : mrTest Φ tn n i v (.bool false, φ) = mrKe2 Φ tn "lab0" ⟨rho v, φ⟩ := rfl
theorem mrTest_t (Φ : CallT) (tn n i : Nat) (v : Int) (φ : Fld) : mrTest Φ tn n i v (.bool true, φ) = mrAt Φ tn n i ⟨rho v, φ⟩ := rfl
theorem mark_body (w : Wd) (hw : w.length ≤ 40) : ∃ p' : Int, wk (callN TT (l + 1)) 64 "r_mark_regions" true 23 mrI 64 ⟨rho 0, fld (sW w) 0 w.length lb b k w.length⟩ (mrKn (callN TT (l + 1)) 64) KR (mrKe1 (callN TT (l + 1)) 64) =
    some (.bool (decide (3 ≤ w.length)), fld (sW w) 0 w.length lb b k p') ∧ (3 ≤ w.length → p' = startP w) := by
  have e := mrI_spec lb b k w.length (callN TT (l + 1)) 64 w 0 (mrKn (callN TT (l + 1)) 64) KR (mrKe1 (callN TT (l + 1)) 64) 64 0 (Nat.zero_le _) (by omega)
  rw [List.drop_zero] at e
  suffices h : ∃ p' : Int, (match ap w 0 with
      | some j => mrKn (callN TT (l + 1)) 64 ⟨rho 0, fld (sW w) (j + 1 : Nat) w.length lb b k w.length⟩
      | none => mrKe1 (callN TT (l + 1)) 64 "lab1" ⟨rho 0, fld (sW w) w.length w.length lb b k w.length⟩) = some (.bool (decide (3 ≤ w.length)), fld (sW w) 0 w.length lb b k p') ∧ (3 ≤ w.length → p' = startP w) by
    obtain ⟨p', h1, h2⟩ := h
    exact ⟨p', Eq.trans e h1, h2⟩
  have st : startP w = match ap w 0 with
    | some k => max 3 (k + 1)
    | none => match vc w false 0 with
      | some k => max 3 (k + 1)
      | none => w.length := rfl
  have fin := fin_spec lb b k w
  cases ha : ap w 0 with
  | some j =>
    rw [ha] at st
    dsimp only at st ⊢
    rw [m_kn]
    exact fin (j + 1) fun _ => st.symm
  | none =>
    rw [ha, vc_fv] at st
    dsimp only at st ⊢
    have g : callN TT (l + 1) "go_out_grouping" [.self, .set csV] (fld (sW w) 0 w.length lb b k w.length) = match fv (w.drop 0) 0 with
      | none => some (.bool false, fld (sW w) w.length w.length lb b k w.length)
      | some a => some (.bool true, fld (sW w) a w.length lb b k w.length) := c_goOut l lb b k w.length w 0 (Nat.zero_le _) hw
    rw [m_ke, g, List.drop_zero]
    cases hf : fv w 0 with
    | none =>
      rw [hf] at st
      dsimp only at st ⊢
      rw [Option.bind_some, mrTest_f, m_lab0]
      exact fin w.length fun h => by rw [st]; omega
    | some a =>
      rw [hf] at st
      dsimp only at st ⊢
      have ga := fv_ge _ _ _ hf
      rw [Option.bind_some, mrTest_t, m_in, show ((a : Int) + 1) = ((a + 1 : Nat) : Int) by omega, c_goIn l lb b k w.length w (a + 1) (by omega) hw]
      rw [Nat.sub_zero] at st
      cases hn : fn (w.drop (a + 1)) (a + 1) with
      | none =>
        rw [hn] at st
        dsimp only at st ⊢
        rw [Option.bind_some, mrTest_f, m_lab0]
        exact fin w.length fun h => by rw [st]; omega
      | some d =>
        rw [hn] at st
        dsimp only at st ⊢
        rw [Option.bind_some, mrTest_t, m_end, show ((d : Int) + 1) = ((d + 1 : Nat) : Int) by omega]
        exact fin (d + 1) fun h => st.symm

/-- the fields of a stemmer, before its first word or behind it -/
noncomputable def Flds (φ : Fld) (w : PySem.Str) (c lim lb b k : Int) : Prop := φ = fl6 w c lim lb b k ∨ ∃ p, φ = fld w c lim lb b k p
theorem c_mark (w : Wd) (hw : w.length ≤ 40) {φ : Fld} (hφ : Flds φ (sW w) 0 w.length lb b k) : ∃ p' : Int, callN TT (l + 2) "r_mark_regions" [.self] φ =
    some (.bool (decide (3 ≤ w.length)), fld (sW w) 0 w.length lb b k p') ∧ (3 ≤ w.length → p' = startP w) := by
  obtain ⟨p', h1, h2⟩ := mark_body l lb b k w hw
  rcases hφ with rfl | ⟨p, rfl⟩
  · exact ⟨p', (call_run (by kernel_rfl)).trans ((r_mark6 _ 63 _ _ _ _ _ _).trans h1), h2⟩
  · exact ⟨p', (call_run (by kernel_rfl)).trans ((r_mark _ 63 _ _ _ _ _ _ _).trans h1), h2⟩
end Nor
end

section
open PySem PySem.W NP
set_option Elab.async false
set_option maxRecDepth 100000
namespace Nor

noncomputable def amW (T : Tb) : List MV := T.map fun x => MV.am (sW x.1) x.2.1 x.2.2
theorem as0 : asOf "a_0" = amW T0 := by kernel_rfl
theorem as1 : asOf "a_1" = amW T1 := by kernel_rfl
theorem as2 : asOf "a_2" = amW T2 := by kernel_rfl
theorem as3 : asOf "a_3" = amW T3 := by kernel_rfl
theorem amW_len (T : Tb) : (amW T).length = T.length := by unfold amW; exact List.length_map ..
theorem amW_get {T : Tb} {i : Nat} (h : i < T.length) : (amW T)[i]? = some (.am (sW (ent T i).1) (ent T i).2.1 (ent T i).2.2) := by
  unfold amW ent
  rw [List.getElem?_map, List.getD_eq_getElem?_getD, List.getElem?_eq_getElem h]; rfl

noncomputable def descL : Nat → List MV
  | 0 => []
  | m + 1 => .int m :: descL m
theorem rangeL_desc (m : Nat) : rangeL ((m : Int) - 1) (-1) (-1) = descL m := by
  have : ∀ m : Nat, ((List.range m).map fun (k : Nat) => MV.int ((m : Int) - 1 - (k : Int))) = descL m := by
    intro m
    induction m with
    | zero => rfl
    | succ m ih =>
      rw [List.range_succ_eq_map, List.map_cons, List.map_map]
      unfold descL
      congr 1
      · congr 1; omega
      · rw [← ih]
        apply List.map_congr_left
        intro k _
        show MV.int _ = MV.int _
        congr 1
        simp only [Nat.succ_eq_add_one]
        omega
  unfold rangeL
  rw [decide_eq_false (by decide), cond_false]
  have e : ((m : Int) - 1 - -1).toNat = m := by omega
  rw [e]
  exact this m

/-- the sign that the search reads -/
theorem seg_get {w : Wd} {c lb t : Nat} (hc : c ≤ w.length) (ht : t < c - lb) : (((w.take c).drop lb).reverse).drop t = w.getD (c - 1 - t) 0 :: (((w.take c).drop lb).reverse).drop (t + 1) := by
  have l : ((w.take c).drop lb).reverse.length = c - lb := by rw [List.length_reverse, List.length_drop, List.length_take]; omega
  rw [List.drop_eq_getElem_cons (by omega)]
  congr 1
  rw [List.getElem_reverse, List.getElem_drop, List.getElem_take, List.getD_eq_getElem?_getD]
  have : lb + ((List.drop lb (List.take c w)).length - 1 - t) = c - 1 - t := by
    rw [List.length_drop, List.length_take]; omega
  simp only [this]
  rw [List.getElem?_eq_getElem (by omega)]; rfl
theorem seg_end {w : Wd} {c lb : Nat} (hc : c ≤ w.length) : (((w.take c).drop lb).reverse).drop (c - lb) = [] := by
  apply List.drop_eq_nil_of_le
  rw [List.length_reverse, List.length_drop, List.length_take]; omega
theorem ent_get {e : Wd} {m t : Nat} (h : m + 1 + t = e.length) : e.reverse.drop t = e.getD m 0 :: e.reverse.drop (t + 1) := by
  have l : e.reverse.length = e.length := List.length_reverse
  rw [List.drop_eq_getElem_cons (by omega)]
  congr 1
  rw [List.getElem_reverse, List.getD_eq_getElem?_getD]
  have : e.length - 1 - t = m := by omega
  simp only [this]
  rw [List.getElem?_eq_getElem (by omega)]; rfl

section
variable (Φ : CallT) (tn : Nat) (cc lim kk p : Int) (v : MV) (i j ci cj k : Int) (fst : Bool) (si r : Int)

theorem for_spec (w e : Wd) (c lb : Nat) (hc : c ≤ w.length) (hl : lb ≤ c) (N : Nat) (l2 b : Int) : ∀ (m co : Nat) (o : Option Int), m + co = e.length → co ≤ c - lb →
    ∃ o', faFor Φ tn N (descL m) ⟨rF v i j c lb ci cj fst (xX k 0 co (.am (sW e) si r) o), fld (sW w) cc lim l2 b kk p⟩ =
      faAt Φ tn N 17 5 ⟨rF v i j c lb ci cj fst (xX k (scan (e.reverse.drop co) (((w.take c).drop lb).reverse.drop co)).2 (co + (scan (e.reverse.drop co) (((w.take c).drop lb).reverse.drop co)).1 : Nat) (.am (sW e) si r) o'), fld (sW w) cc lim l2 b kk p⟩
  | 0, co, o, h1, h2 => by
    refine ⟨o, ?_⟩
    have : e.reverse.drop co = [] := List.drop_eq_nil_of_le (by rw [List.length_reverse]; omega)
    rw [this]
    unfold descL scan
    rw [fo_nil]; rfl
  | m + 1, co, o, h1, h2 => by
    unfold descL
    rw [fo_cons, ent_get (m := m) (by omega)]
    by_cases h : co < c - lb
    · rw [seg_get hc h]
      have ne : ((c : Int) - (co : Int) == (lb : Int)) = false := by simp; omega
      have e1 : (c : Int) - 1 - (co : Int) = ((c - 1 - co : Nat) : Int) := by omega
      rw [ne, cond_false, e1, gd_true (inB_nat (by omega)), gd_true (inB_nat (by omega))]
      have ch : ∀ (u : Wd) (n : Nat), chA (sW u) (n : Int) = u.getD n 0 := fun u n => rfl
      rw [ch, ch]
      unfold scan
      by_cases q : (w.getD (c - 1 - co) 0 : Int) - (e.getD m 0 : Int) = 0
      · rw [if_pos q, q]
        obtain ⟨o', ho⟩ := for_spec w e c lb hc hl N l2 b m (co + 1) (some m) (by omega) (by omega)
        refine ⟨o', ?_⟩
        have e2 : co + ((scan (List.drop (co + 1) e.reverse) (List.drop (co + 1) (List.drop lb (List.take c w)).reverse)).1 + 1) = co + 1 + (scan (List.drop (co + 1) e.reverse) (List.drop (co + 1) (List.drop lb (List.take c w)).reverse)).1 := by omega
        have e3 : (co : Int) + 1 = ((co + 1 : Nat) : Int) := by omega
        have z0 : ((0 : Int) != 0) = false := by decide
        rw [e2, z0, cond_false, e3]
        exact ho
      · rw [if_neg q]
        have q' : (((w.getD (c - 1 - co) 0 : Int) - (e.getD m 0 : Int)) != 0) = true := by simpa using q
        refine ⟨some m, ?_⟩
        rw [q', cond_true]; rfl
    · have e0 : co = c - lb := by omega
      subst e0
      rw [seg_end hc]
      have ne : ((c : Int) - ((c - lb : Nat) : Int) == (lb : Int)) = true := by simp; omega
      refine ⟨some m, ?_⟩
      rw [ne, cond_true]; rfl
end

section
variable (l : Nat) (lim b kk p : Int)

theorem mid_nat {i j : Nat} (h : i ≤ j) : mid (i : Int) (j : Int) = ((i + (j - i) / 2 : Nat) : Int) := by
  unfold mid
  rw [Int.fdiv_eq_ediv_of_nonneg _ (by decide)]
  omega
theorem mn_nat (a b : Nat) : mn (a : Int) (b : Int) = ((min a b : Nat) : Int) := by
  unfold mn
  split <;> omega
/-- the loop's state behind its first turn, or before it -/
noncomputable def fX (x : Option (Int × Int × Int × MV × Option Int)) : Fld := match x with
  | none => []
  | some (k, d, co, w, o) => xX k d co w o

theorem search_spec {T : Tb} (ok : TabOk T) (Φ : CallT) (tn : Nat) (w : Wd) (c lb : Nat) (hc : c ≤ w.length) (hl : lb ≤ c) : ∀ (N i j ci cj : Nat) (fst : Bool) (x : Option (Int × Int × Int × MV × Option Int)),
    Head T ((w.take c).drop lb).reverse i j ci cj fst → j - i ≤ N →
    ∃ (i' ci' : Nat) (j' cj' k d co : Int) (fst' : Bool) (u : MV) (o : Option Int), Found T ((w.take c).drop lb).reverse i' ci' ∧
      faW Φ tn N ⟨rF (.list (amW T)) i j c lb ci cj fst (fX x), fld (sW w) c lim lb b kk p⟩ = faK Φ tn ⟨rF (.list (amW T)) i' j' c lb ci' cj' fst' (xX k d co u o), fld (sW w) c lim lb b kk p⟩
  | 0, i, j, ci, cj, fst, x, hd, hN => by have := hd.gap; omega
  | N + 1, i, j, ci, cj, fst, x, hd, hN => by
    have gap := hd.gap
    have top := hd.top
    have mk := mid_nat (i := i) (j := j) (by omega)
    generalize hk : i + (j - i) / 2 = k at mk
    have k1 : i ≤ k := by omega
    have k2 : k < j := by omega
    have k0 : i + 2 ≤ j → i < k := by omega
    clear hk
    have few := ok.few k (by omega)
    have el : (E T k).length = (ent T k).1.length := List.length_reverse
    have ag := head_agree ok hd k1 k2
    have sc := scan_drop ag
    have turn : faW Φ tn (N + 1) ⟨rF (.list (amW T)) i j c lb ci cj fst (fX x), fld (sW w) c lim lb b kk p⟩ =
        gd (decide (0 ≤ mid i j) && decide (mid i j < (amW T).length)) (((amW T)[(mid i j).toNat]?).bind fun w' => faAt Φ tn N 18 4 ⟨rF (.list (amW T)) i j c lb ci cj fst (xX (mid i j) 0 (mn ci cj) w' (x.bind (·.2.2.2.2))), fld (sW w) c lim lb b kk p⟩) := by
      cases x with
      | none => exact f_turn0 ..
      | some x => obtain ⟨k, d, co, u, o⟩ := x; exact f_turn ..
    rw [mk, mn_nat, gd_true (by rw [amW_len, Bool.and_eq_true, decide_eq_true_iff, decide_eq_true_iff]; omega), Int.toNat_natCast, amW_get (by omega), Option.bind_some, f_for, sW_len] at turn
    have hm : min ci cj ≤ (ent T k).1.length := by rw [← el]; exact ag.1
    have e1 : (((ent T k).1.length : Int) - 1 - ((min ci cj : Nat) : Int)) = (((ent T k).1.length - min ci cj : Nat) : Int) - 1 := by omega
    have fit : fits ((((ent T k).1.length - min ci cj : Nat) : Int) - 1) = true := by
      unfold fits
      rw [Bool.and_eq_true, decide_eq_true_iff, decide_eq_true_iff]; omega
    rw [e1, fit, gd_true (by decide +kernel), gd_true (by decide +kernel), rangeL_desc] at turn
    have lR : ((w.take c).drop lb).reverse.length = c - lb := by rw [List.length_reverse, List.length_drop, List.length_take]; omega
    obtain ⟨o', ho⟩ := for_spec Φ tn c lim kk p (.list (amW T)) i j ci cj k fst (ent T k).2.1 (ent T k).2.2 w (ent T k).1 c lb hc hl N lb b ((ent T k).1.length - min ci cj) (min ci cj) (x.bind (·.2.2.2.2)) (by omega) (by rw [← lR]; exact ag.2.1)
    rw [ho, f_end] at turn
    clear ho e1 fit hm lR few mk
    have er : (ent T k).1.reverse = E T k := rfl
    rw [er] at turn
    have s1 : min ci cj + (scan (List.drop (min ci cj) (E T k)) (List.drop (min ci cj) ((w.take c).drop lb).reverse)).1 = (scan (E T k) ((w.take c).drop lb).reverse).1 := by rw [sc]
    have s2 : (scan (List.drop (min ci cj) (E T k)) (List.drop (min ci cj) ((w.take c).drop lb).reverse)).2 = (scan (E T k) ((w.take c).drop lb).reverse).2 := by rw [sc]
    rw [s1, s2] at turn
    rw [turn]
    have sl := scan_le (E T k) ((w.take c).drop lb).reverse
    by_cases hd2 : (scan (E T k) ((w.take c).drop lb).reverse).2 < 0
    · rw [decide_eq_true hd2, cond_true]
      have lek := sl.mp hd2
      unfold faGo
      by_cases g1 : k - i ≤ 1
      · rw [decide_eq_true (show (k : Int) - (i : Int) ≤ 1 by omega), cond_true]
        by_cases g2 : 0 < i
        · rw [decide_eq_true (show (0 : Int) < i by omega), cond_true]
          refine ⟨i, ci, _, _, _, _, _, _, _, _, ⟨by omega, .inl ?_⟩, rfl⟩
          rcases hd.lo with ⟨h, _⟩ | ⟨h1, h2⟩
          · omega
          · refine ⟨h1, h2, .inr ?_⟩
            have : i + 1 = k := by omega
            rw [this]; exact lek
        · have i0 : i = 0 := by omega
          subst i0
          rw [decide_eq_false (show ¬ (0 : Int) < (0 : Nat) by omega), cond_false]
          by_cases g3 : k = 0
          · have : ((k : Int) == ((0 : Nat) : Int)) = true := by simp; omega
            rw [this, cond_true]
            refine ⟨0, ci, _, _, _, _, _, _, _, _, ⟨by omega, .inr ⟨rfl, ?_, by rw [g3] at lek; exact lek⟩⟩, rfl⟩
            rcases hd.lo with ⟨_, h⟩ | ⟨h1, h2⟩
            · exact h
            · rw [g3] at lek; rw [lek] at h1; cases h1
          · have : ((k : Int) == ((0 : Nat) : Int)) = false := by simp; omega
            have kk1 : k = 1 := by omega
            have ff : fst = false := by
              rcases gap with h | h
              · exact h.1
              · omega
            rw [this, cond_false, ff, cond_false]
            have hd' : Head T ((w.take c).drop lb).reverse 0 k ci (scan (E T k) ((w.take c).drop lb).reverse).1 true := ⟨by omega, hd.lo, .inr ⟨by omega, lek, rfl⟩, .inr ⟨rfl, rfl, kk1⟩⟩
            exact search_spec ok Φ tn w c lb hc hl N 0 k ci _ true (some (_, _, _, _, _)) hd' (by omega)
      · rw [decide_eq_false (show ¬ (k : Int) - (i : Int) ≤ 1 by omega), cond_false]
        have ff : fst = false := by
          rcases gap with h | h
          · exact h.1
          · omega
        have hd' : Head T ((w.take c).drop lb).reverse i k ci (scan (E T k) ((w.take c).drop lb).reverse).1 fst := ⟨by omega, hd.lo, .inr ⟨by omega, lek, rfl⟩, .inl ⟨ff, by omega⟩⟩
        exact search_spec ok Φ tn w c lb hc hl N i k ci _ fst (some (_, _, _, _, _)) hd' (by omega)
    · rw [decide_eq_false hd2, cond_false]
      have lek : le (E T k) ((w.take c).drop lb).reverse = true := by
        cases q : le (E T k) ((w.take c).drop lb).reverse with
        | true => rfl
        | false => exact absurd (sl.mpr q) hd2
      have hi' : (k + 1 = j) → (k + 1 = T.length ∨ le (E T (k + 1)) ((w.take c).drop lb).reverse = false) := fun h => by
        rcases hd.hi with ⟨h1, _⟩ | ⟨_, h1, _⟩
        · exact .inl (by omega)
        · exact .inr (by rw [h]; exact h1)
      unfold faGo
      by_cases g1 : j - k ≤ 1
      · rw [decide_eq_true (show (j : Int) - (k : Int) ≤ 1 by omega), cond_true]
        by_cases g2 : 0 < k
        · rw [decide_eq_true (show (0 : Int) < k by omega), cond_true]
          exact ⟨k, _, _, _, _, _, _, _, _, _, ⟨by omega, .inl ⟨lek, rfl, hi' (by omega)⟩⟩, rfl⟩
        · have k0 : k = 0 := by omega
          have ft : fst = true := by
            rcases gap with h | h
            · omega
            · exact h.1
          have : ((j : Int) == (k : Int)) = false := by simp; omega
          rw [decide_eq_false (show ¬ (0 : Int) < k by omega), cond_false, this, cond_false, ft, cond_true]
          exact ⟨k, _, _, _, _, _, _, _, _, _, ⟨by omega, .inl ⟨lek, rfl, hi' (by omega)⟩⟩, rfl⟩
      · rw [decide_eq_false (show ¬ (j : Int) - (k : Int) ≤ 1 by omega), cond_false]
        have ff : fst = false := by
          rcases gap with h | h
          · exact h.1
          · omega
        have hd' : Head T ((w.take c).drop lb).reverse k j (scan (E T k) ((w.take c).drop lb).reverse).1 cj fst := ⟨top, .inr ⟨lek, rfl⟩, hd.hi, .inl ⟨ff, by omega⟩⟩
        exact search_spec ok Φ tn w c lb hc hl N k j _ cj fst (some (_, _, _, _, _)) hd' (by omega)
end
end Nor
end

section
open PySem PySem.W NP
set_option Elab.async false
set_option maxRecDepth 100000
namespace Nor
variable (l : Nat) (lim b kk p : Int)

/-- what the search answers -/
noncomputable def faA (w : Wd) (c : Nat) (lim lb b kk p : Int) : Option (Wd × Int) → Option (MV × Fld)
  | none => some (.int 0, fld (sW w) c lim lb b kk p)
  | some (e, r) => some (.int r, fld (sW w) ((c : Int) - (e.length : Int)) lim lb b kk p)
theorem E_len (T : Tb) (i : Nat) : (E T i).length = (ent T i).1.length := List.length_reverse

theorem second_spec {T : Tb} (ok : TabOk T) (F : funT T) (Φ : CallT) (tn : Nat) (w : Wd) (c lb : Nat) : ∀ (N i ci : Nat) (j' cj' k d co : Int) (fst' : Bool) (u : MV) (o : Option Int),
    Chain T ((w.take c).drop lb).reverse i ci → (E T i).length < N →
    fbW Φ tn N ⟨rF (.list (amW T)) i j' c lb ci cj' fst' (xX k d co u o), fld (sW w) c lim lb b kk p⟩ = faA w c lim lb b kk p (fa T ((w.take c).drop lb))
  | 0, i, ci, j', cj', k, d, co, fst', u, o, h, hN => by omega
  | N + 1, i, ci, j', cj', k, d, co, fst', u, o, h, hN => by
    rw [b_turn, gd_true (by rw [amW_len, Bool.and_eq_true, decide_eq_true_iff, decide_eq_true_iff]; have := h.1; omega), Int.toNat_natCast, amW_get h.1, Option.bind_some, b_end, sW_len]
    by_cases hl : (E T i).length ≤ ci
    · have := best_uniq F (chain_end h hl) (fa_best _ _)
      rw [decide_eq_true (show ((ent T i).1.length : Int) ≤ (ci : Int) by rw [← E_len]; omega), ← this]; rfl
    · rw [decide_eq_false (show ¬ ((ent T i).1.length : Int) ≤ (ci : Int) by rw [← E_len]; omega), cond_false]
      by_cases hs : (ent T i).2.1 < 0
      · have := best_uniq F (chain_none ok h (by omega) hs) (fa_best _ _)
        rw [decide_eq_true hs, ← this]; rfl
      · rw [decide_eq_false hs, cond_false]
        obtain ⟨h', l'⟩ := chain_next ok h (by omega) (by omega)
        have e : (ent T i).2.1 = (((ent T i).2.1.toNat : Nat) : Int) := by omega
        have z := second_spec ok F Φ tn w c lb N (ent T i).2.1.toNat ci j' cj' k d co fst' (.am (sW (ent T i).1) (ent T i).2.1 (ent T i).2.2) o h' (by omega)
        rw [← e] at z
        exact z

theorem c_find {T : Tb} (ok : TabOk T) (F : funT T) (w : Wd) (c lb : Nat) (hc : c ≤ w.length) (hl : lb ≤ c) :
    callN TT (l + 1) "find_among_b" [.self, .list (amW T)] (fld (sW w) c lim lb b kk p) = faA w c lim lb b kk p (fa T ((w.take c).drop lb)) := by
  refine (call_run (by kernel_rfl)).trans ((r_find ..).trans ?_)
  have hd : Head T ((w.take c).drop lb).reverse 0 T.length 0 0 false := ⟨Nat.le_refl _, .inl ⟨rfl, rfl⟩, .inl ⟨rfl, rfl⟩, .inl ⟨rfl, by have := ok.two; omega⟩⟩
  obtain ⟨i', ci', j', cj', k, d, co, fst', u, o, hf, e⟩ := search_spec lim b kk p ok (callN TT l) turns w c lb hc hl turns 0 T.length 0 0 false none hd (by have := ok.two; unfold turns; omega)
  rw [amW_len]
  refine Eq.trans e ?_
  rw [f_second]
  rcases found_chain ok hf with h | ⟨rfl, rfl, h1, h2⟩
  · exact second_spec lim b kk p ok F (callN TT l) turns w c lb turns i' ci' j' cj' k d co fst' u o h (by have := ok.few i' h.1; unfold turns; omega)
  · have n0 : 0 < T.length := by have := ok.two; omega
    have t : ∀ N, fbW (callN TT l) turns (N + 1) ⟨rF (.list (amW T)) (0 : Nat) j' c lb (0 : Nat) cj' fst' (xX k d co u o), fld (sW w) c lim lb b kk p⟩ = faA w c lim lb b kk p (fa T ((w.take c).drop lb)) := fun N => by
      have := best_uniq F (best_none h2) (fa_best _ _)
      rw [b_turn, gd_true (by rw [amW_len, Bool.and_eq_true, decide_eq_true_iff, decide_eq_true_iff]; omega), Int.toNat_natCast, amW_get n0, Option.bind_some, b_end, sW_len,
        decide_eq_false (show ¬ ((ent T 0).1.length : Int) ≤ ((0 : Nat) : Int) by rw [← E_len]; omega), cond_false, decide_eq_true ok.first, ← this]; rfl
    exact t 63
end Nor
end

section
open PySem PySem.W NP
set_option Elab.async false
set_option maxRecDepth 100000
namespace Nor
variable (l : Nat) (c lim b k : Int)

theorem orT_spec {R : Type} (w : Wd) (c x : Nat) (h : 0 < c) (hc : c ≤ w.length) (A B : Option R) : orT (sW w) (c : Int) 0 (sW [x]) A B = if w.getD (c - 1) 0 = x then B else A := by
  unfold orT
  have e : (c : Int) - 1 = ((c - 1 : Nat) : Int) := by omega
  rw [decide_eq_false (show ¬ (c : Int) ≤ 0 by omega), e, gd_true (inB_nat (by omega)), sW_sg, Int.toNat_natCast]
  unfold bne
  rw [sW_beq]
  by_cases q : w.getD (c - 1) 0 = x
  · have : ([w.getD (c - 1) 0] == [x]) = true := by rw [q]; simp
    rw [if_pos q, this]; rfl
  · have : ([w.getD (c - 1) 0] == [x]) = false := by simpa using q
    rw [if_neg q, this]; rfl
theorem r_sW : ("r" : PySem.Str) = sW [114] := by kernel_rfl
theorem e_sW : ("e" : PySem.Str) = sW [101] := by kernel_rfl
theorem k_sW : ("k" : PySem.Str) = sW [107] := by kernel_rfl
theorem ap_sW : ("'" : PySem.Str) = sW [39] := by kernel_rfl

theorem truthB {R : Type} (t : Bool) (f : Bool → Option R) : (truth (.bool t)).bind f = f t := rfl
theorem isZ_int (r : Int) (φ : Fld) (A B : Option (MV × Fld)) : isZ (.int r, φ) A B = bif r == 0 then A else B := rfl
theorem turns_eq : turns = 63 + 1 := rfl
/-- the fields behind a step: the word w, the cursor anywhere -/
noncomputable def AtR (w : Wd) (p : Nat) (φ : Fld) : Prop := ∃ c b k : Int, φ = fld (sW w) c w.length 0 b k p
/-- a step's answer -/
noncomputable def StepR (w : Wd) (p : Nat) (r : Option (MV × Fld)) : Prop := ∃ t φ, r = some (.bool t, φ) ∧ AtR w p φ

theorem del_step (w : Wd) (p b : Nat) (hb : b ≤ w.length) (hw : w.length ≤ 40) : StepR (w.take b) p ((callN TT (l + 3) "slice_del" [.self] (fld (sW w) c w.length 0 b w.length p)).bind dropT) := by
  obtain ⟨c', e⟩ := c_del l c 0 p w b hb (by omega)
  rw [e]
  refine ⟨true, _, rfl, c', b, b, ?_⟩
  have : (w.take b).length = b := by rw [List.length_take]; omega
  rw [this]

theorem s_step (w : Wd) (p : Nat) (hn : 4 ≤ w.length) (hw : w.length ≤ 40) (tn N : Nat) :
    StepR (if sOk w then w.take (w.length - 1) else w) p (msLoop (callN TT (l + 3)) tn (N + 1) ⟨rhM 0 (.int 3), fld (sW w) (w.length - 1 : Nat) w.length 0 (w.length - 1 : Nat) w.length p⟩) := by
  have del : ∀ c v, sOk w = true → StepR (if sOk w then w.take (w.length - 1) else w) p (msBrk (callN TT (l + 3)) tn ⟨rhW 0 (.int 3) v, fld (sW w) c w.length 0 (w.length - 1 : Nat) w.length p⟩) := fun c v ok => by
    rw [a_brk, ok, if_pos rfl]
    exact del_step l c w p _ (by omega) hw
  have non : ∀ c, sOk w = false → StepR (if sOk w then w.take (w.length - 1) else w) p (some (.bool false, fld (sW w) c w.length 0 (w.length - 1 : Nat) w.length p)) := fun c no => by
    rw [no, if_neg (by decide)]
    exact ⟨false, _, rfl, _, _, _, rfl⟩
  generalize (if sOk w then w.take (w.length - 1) else w) = X at del non ⊢
  have ok : sOk w = (isS (w.getD (w.length - 2) 0) || (w.getD (w.length - 2) 0 == 114 && w.getD (w.length - 3) 0 != 101) || (w.getD (w.length - 2) 0 == 107 && !isV (w.getD (w.length - 3) 0))) := rfl
  have i1 := c_inb (l + 2) w.length ((w.length - 1 : Nat) : Int) w.length p w (w.length - 1) 0 (by omega)
  rw [a_loop]
  have z0 : (((0 : Nat)) : Int) = 0 := rfl
  rw [z0] at i1
  rw [i1, Option.bind_some]
  have e2 : w.length - 1 - 1 = w.length - 2 := by omega
  rw [e2]
  have lt : decide (0 < w.length - 1) = true := decide_eq_true (by omega)
  rw [lt, Bool.true_and, truthB]
  cases hS : isS (w.getD (w.length - 2) 0) with
  | true =>
    rw [Bool.not_true, cond_false]
    exact del _ _ (by rw [ok, hS]; rfl)
  | false =>
    rw [hS] at ok
    rw [if_neg (fun h => Bool.noConfusion h.2), Bool.not_false, cond_true]
    have v3 : (w.length : Int) - ((w.length : Int) - ((w.length - 1 : Nat) : Int)) = ((w.length - 1 : Nat) : Int) := by omega
    have v4 : ((w.length - 1 : Nat) : Int) - 1 = ((w.length - 2 : Nat) : Int) := by omega
    rw [a_two, v3, v4, r_sW, e_sW, orT_spec w (w.length - 1) 114 (by omega) (by omega), e2]
    have four : ∀ c, w.getD (w.length - 2) 0 ≠ 114 ∨ w.getD (w.length - 3) 0 = 101 → StepR X p (msAt (callN TT (l + 3)) tn N 14 4 ⟨rhW 0 (.int 3) ((w.length : Int) - ((w.length - 1 : Nat) : Int)), fld (sW w) c w.length 0 (w.length - 1 : Nat) w.length p⟩) := fun c hr => by
      rw [a_four, v3, v4, k_sW, orT_spec w (w.length - 1) 107 (by omega) (by omega), e2]
      have hr' : (w.getD (w.length - 2) 0 == 114 && w.getD (w.length - 3) 0 != 101) = false := by
        rcases hr with h | h
        · have : (w.getD (w.length - 2) 0 == 114) = false := by simpa using h
          rw [this]; rfl
        · have : (w.getD (w.length - 3) 0 != 101) = false := by simpa using h
          rw [this, Bool.and_false]
      rw [hr', Bool.false_or] at ok
      by_cases hk : w.getD (w.length - 2) 0 = 107
      · have hk' : (w.getD (w.length - 2) 0 == 107) = true := by simpa using hk
        rw [hk', Bool.true_and, Bool.false_or] at ok
        have o1 := c_outb (l + 2) w.length ((w.length - 1 : Nat) : Int) w.length p w (w.length - 2) 0 (by omega)
        rw [z0] at o1
        rw [if_pos hk, o1, Option.bind_some]
        have e3 : w.length - 2 - 1 = w.length - 3 := by omega
        have lt3 : decide (0 < w.length - 2) = true := decide_eq_true (by omega)
        rw [e3, lt3, Bool.true_and, truthB]
        cases hV : isV (w.getD (w.length - 3) 0) with
        | true =>
          rw [hV] at ok
          rw [Bool.not_true, Bool.not_false, cond_true]
          exact non _ ok
        | false =>
          rw [hV] at ok
          rw [Bool.not_false, Bool.not_true, cond_false]
          exact del _ _ ok
      · have hk' : (w.getD (w.length - 2) 0 == 107) = false := by simpa using hk
        rw [hk', Bool.false_and, Bool.or_false] at ok
        rw [if_neg hk]
        exact non _ ok
    by_cases hr : w.getD (w.length - 2) 0 = 114
    · rw [if_pos hr, orT_spec w (w.length - 2) 101 (by omega) (by omega)]
      have e3 : w.length - 2 - 1 = w.length - 3 := by omega
      rw [e3]
      by_cases he : w.getD (w.length - 3) 0 = 101
      · rw [if_pos he]
        exact four _ (.inr he)
      · rw [if_neg he]
        have h1 : (w.getD (w.length - 2) 0 == 114) = true := by simpa using hr
        have h2 : (w.getD (w.length - 3) 0 != 101) = true := by simpa using he
        exact del _ _ (by rw [ok, h1, h2]; rfl)
    · rw [if_neg hr]
      exact four _ (.inl hr)

theorem c_main (w : Wd) (p : Nat) (h3 : 3 ≤ p) (hp : p ≤ w.length) (hw : w.length ≤ 40) : StepR (mainP p w) p (callN TT (l + 4) "r_main_suffix" [.self] (fld (sW w) w.length w.length 0 b k p)) := by
  rw [(call_run (l := l + 3) (by kernel_rfl)).trans (r_main ..), turns_eq]
  generalize 63 = tn
  rw [as1, decide_eq_false (show ¬ (w.length : Int) < p by omega), cond_false]
  have f1 := c_find (l + 2) w.length b w.length p ok1 fun1 w w.length p (Nat.le_refl _) hp
  rw [f1, List.take_length]
  have B := fa_best T1 (w.drop p)
  unfold mainP
  have i10 : ((1 : Int) == 0) = false := by decide
  have i11 : ((1 : Int) == 1) = true := by decide
  have i20 : ((2 : Int) == 0) = false := by decide
  have i21 : ((2 : Int) == 1) = false := by decide
  have i22 : ((2 : Int) == 2) = true := by decide
  have i30 : ((3 : Int) == 0) = false := by decide
  have i31 : ((3 : Int) == 1) = false := by decide
  have i32 : ((3 : Int) == 2) = false := by decide
  have i33 : ((3 : Int) == 3) = true := by decide
  have i40 : ((4 : Int) == 0) = false := by decide
  have i41 : ((4 : Int) == 1) = false := by decide
  have i42 : ((4 : Int) == 2) = false := by decide
  have i43 : ((4 : Int) == 3) = false := by decide
  have i00 : ((0 : Int) == 0) = true := by decide
  have i01 : ((0 : Int) == 1) = false := by decide
  cases e : fa T1 (w.drop p) with
  | none =>
    unfold faA
    dsimp only
    rw [Option.bind_some, a_main, i00, cond_true]
    exact ⟨false, _, rfl, _, _, _, rfl⟩
  | some y =>
    obtain ⟨s, r⟩ := y
    rw [e] at B
    obtain ⟨⟨kk, hk⟩, hs, hm⟩ := B
    have sl := sfx_len hs hp
    dsimp only at sl
    have ec : (w.length : Int) - (s.length : Int) = ((w.length - s.length : Nat) : Int) := by omega
    unfold faA
    dsimp only at hk ⊢
    rw [Option.bind_some, ec, a_main]
    rcases t1_shape _ hk with ⟨h1, h2⟩ | ⟨h1, h2⟩ | ⟨h1, h2⟩ | ⟨h1, h2⟩ <;> dsimp only at h1 h2 <;> subst h1
    · rw [if_pos rfl, i10, cond_false, i11, cond_true]
      exact del_step l _ w p _ (by omega) hw
    · rw [if_neg (by decide), if_pos rfl, i20, cond_false, i21, cond_false, i22, cond_true]
      have f0 := c_find (l + 2) w.length ((w.length - s.length : Nat) : Int) w.length p ok0 fun0 w (w.length - s.length) 0 (by omega) (by omega)
      have z0 : (((0 : Nat)) : Int) = 0 := rfl
      rw [List.drop_zero] at f0
      unfold faA at f0
      rw [z0] at f0
      rw [as0, f0]
      cases e0 : fa T0 (w.take (w.length - s.length)) with
      | none =>
        dsimp only
        rw [Option.bind_some, a_ms0, i01, cond_false]
        exact ⟨true, _, rfl, _, _, _, rfl⟩
      | some y =>
        obtain ⟨t, q⟩ := y
        dsimp only
        rw [Option.bind_some, a_ms0]
        by_cases hq : q = 1
        · subst hq
          rw [if_pos rfl, i11, cond_true]
          exact del_step l _ w p _ (by omega) hw
        · have : (q == 1) = false := by simpa using hq
          rw [if_neg hq, this, cond_false]
          exact ⟨true, _, rfl, _, _, _, rfl⟩
    · subst h2
      rw [if_neg (by decide), if_neg (by decide), if_pos rfl, i30, cond_false, i31, cond_false, i32, cond_false, i33, cond_true]
      have l1 : ([115] : Wd).length = 1 := rfl
      rw [l1] at sl ⊢
      exact s_step l w p (by omega) hw _ _
    · rw [if_neg (by decide), if_neg (by decide), if_neg (by decide), i40, cond_false, i41, cond_false, i42, cond_false, i43, cond_false]
      obtain ⟨c', e⟩ := c_slice (l + 1) ((w.length - s.length : Nat) : Int) 0 p w [101, 114] (w.length - s.length) (by omega) (by omega) (by decide)
      have le : w.length - s.length + ([101, 114] : Wd).length = (w.take (w.length - s.length) ++ [101, 114]).length := by
        rw [List.length_append, List.length_take, Nat.min_eq_left (by omega)]
      rw [le] at e
      rw [er_sW, e]
      exact ⟨true, _, rfl, c', _, _, rfl⟩

theorem t2_res : ∀ x ∈ T2, x.2.2 = -1 := by decide +kernel
theorem t3_res : ∀ x ∈ T3, x.2.2 = 1 := by decide +kernel
theorem c_cons (w : Wd) (p : Nat) (h3 : 3 ≤ p) (hp : p ≤ w.length) (hw : w.length ≤ 40) : StepR (consP p w) p (callN TT (l + 4) "r_consonant_pair" [.self] (fld (sW w) w.length w.length 0 b k p)) := by
  rw [(call_run (l := l + 3) (by kernel_rfl)).trans (r_cons ..)]
  generalize turns = tn
  rw [as2, decide_eq_false (show ¬ (w.length : Int) < p by omega), cond_false]
  have f1 := c_find (l + 2) w.length b w.length p ok2 fun2 w w.length p (Nat.le_refl _) hp
  rw [f1, List.take_length]
  have B := fa_best T2 (w.drop p)
  unfold consP
  cases e : fa T2 (w.drop p) with
  | none =>
    unfold faA
    dsimp only
    rw [Option.bind_some, isZ_int, show ((0 : Int) == 0) = true by decide, cond_true]
    exact ⟨false, _, rfl, _, _, _, rfl⟩
  | some y =>
    obtain ⟨s, r⟩ := y
    rw [e] at B
    obtain ⟨⟨kk, hk⟩, hs, hm⟩ := B
    have hr := t2_res _ hk
    dsimp only at hr
    subst hr
    unfold faA
    dsimp only
    rw [Option.bind_some, isZ_int, show ((-1 : Int) == 0) = false by decide, cond_false]
    have v1 : (w.length : Int) - ((w.length : Int) - (w.length : Int)) = (w.length : Int) := by omega
    have v2 : (w.length : Int) - 1 = ((w.length - 1 : Nat) : Int) := by omega
    rw [a_cons, v1, decide_eq_false (show ¬ (w.length : Int) ≤ 0 by omega), cond_false, v2]
    exact del_step l _ w p _ (by omega) hw
theorem c_oth (w : Wd) (p : Nat) (h3 : 3 ≤ p) (hp : p ≤ w.length) (hw : w.length ≤ 40) : StepR (othP p w) p (callN TT (l + 4) "r_other_suffix" [.self] (fld (sW w) w.length w.length 0 b k p)) := by
  rw [(call_run (l := l + 3) (by kernel_rfl)).trans (r_oth ..)]
  generalize turns = tn
  rw [as3, decide_eq_false (show ¬ (w.length : Int) < p by omega), cond_false]
  have f1 := c_find (l + 2) w.length b w.length p ok3 fun3 w w.length p (Nat.le_refl _) hp
  rw [f1, List.take_length]
  have B := fa_best T3 (w.drop p)
  unfold othP
  cases e : fa T3 (w.drop p) with
  | none =>
    unfold faA
    dsimp only
    rw [Option.bind_some, isZ_int, show ((0 : Int) == 0) = true by decide, cond_true]
    exact ⟨false, _, rfl, _, _, _, rfl⟩
  | some y =>
    obtain ⟨s, r⟩ := y
    rw [e] at B
    obtain ⟨⟨kk, hk⟩, hs, hm⟩ := B
    have hr := t3_res _ hk
    have sl := sfx_len hs hp
    dsimp only at hr sl
    subst hr
    unfold faA
    dsimp only
    rw [Option.bind_some, isZ_int, show ((1 : Int) == 0) = false by decide, cond_false]
    have ec : (w.length : Int) - (s.length : Int) = ((w.length - s.length : Nat) : Int) := by omega
    rw [a_oth, ec]
    exact del_step l _ w p _ (by omega) hw
end Nor
end

section
open PySem PySem.W NP
set_option Elab.async false
set_option maxRecDepth 100000
namespace Nor
variable (l : Nat) (c lim lb b k : Int)

theorem main_len {p : Nat} {w : Wd} (h3 : 3 ≤ p) (hp : p ≤ w.length) : p ≤ (mainP p w).length ∧ (mainP p w).length ≤ w.length := by
  rcases main_cases h3 hp with ⟨m, _, h, hl, _⟩ | ⟨h, u, hu⟩
  · have := congrArg List.length h
    rw [List.length_append] at this
    omega
  · have hl : p ≤ (mainP p w).length := by rw [hu, List.length_append, List.length_take]; omega
    rcases h with ⟨_, h⟩ | ⟨_, h⟩
    · have := congrArg List.length h
      rw [List.length_append] at this
      omega
    · have := congrArg List.length h
      rw [List.length_append] at this
      omega
theorem cons_len {p : Nat} {w : Wd} (hp : p ≤ w.length) : p ≤ (consP p w).length ∧ (consP p w).length ≤ w.length := by
  rcases cons_cases w hp with h | ⟨h, _, _, h2⟩
  · rw [h.1]; omega
  · have := congrArg List.length h
    rw [List.length_append] at this
    omega
theorem oth_len {p : Nat} {w : Wd} (hp : p ≤ w.length) : p ≤ (othP p w).length ∧ (othP p w).length ≤ w.length := by
  rcases oth_cases w hp with h | ⟨e, _, h, _, h2, _⟩
  · rw [h.1]; omega
  · have := congrArg List.length h
    rw [List.length_append] at this
    omega
theorem endQ_get {w : Wd} (h : 0 < w.length) : w.getD (w.length - 1) 0 = 39 ↔ endQ w = true := by
  unfold endQ
  rw [ends_iff]
  have e : w = w.take (w.length - 1) ++ [w.getD (w.length - 1) 0] := by
    conv => lhs; rw [← List.take_append_drop (w.length - 1) w]
    rw [getD_drop (by omega)]
    have : w.length - 1 + 1 = w.length := by omega
    rw [this, List.drop_length]
  constructor
  · intro q
    rw [q] at e
    exact ⟨_, e.symm⟩
  · rintro ⟨u, hu⟩
    rw [← hu]
    simp

theorem dropB (t : Bool) : droppable (.bool t) = true := rfl
theorem dropN : droppable .none = true := rfl
/-- the fields behind a word -/
noncomputable def Done (w : Wd) (φ : Fld) : Prop := ∃ c lim lb b k p : Int, φ = fld (sW w) c lim lb b k p

theorem c_stem (w : Wd) (hw : w.length ≤ 40) {φ : Fld} (hφ : Flds φ (sW w) 0 w.length 0 b k) : ∃ t φ', callN TT (l + 5) "_stem" [.self] φ = some (.bool t, φ') ∧ Done (stemP w) φ' := by
  have start : callN TT (l + 5) "_stem" [.self] φ = (callN TT (l + 4) "r_mark_regions" [.self] φ).bind fun q => tst q (some (.bool false, q.2)) (at_ (callN TT (l + 4)) turns "_stem" true 29 1 ⟨rh0, q.2⟩) := by
    rcases hφ with rfl | ⟨p, rfl⟩
    · exact (call_run (by kernel_rfl)).trans (r_stem6 ..)
    · exact (call_run (by kernel_rfl)).trans (r_stem ..)
  obtain ⟨p', m1, m2⟩ := c_mark (l + 2) 0 b k w hw hφ
  rw [start, m1, Option.bind_some]
  generalize turns = tn
  have tstB : ∀ (t : Bool) (φ : Fld) (A B : Option (MV × Fld)), tst (.bool t, φ) A B = bif !t then A else B := fun _ _ _ _ => rfl
  rw [tstB]
  by_cases h3 : 3 ≤ w.length
  · obtain ⟨p3, pl⟩ := start_ge h3
    have mp := m2 h3
    subst mp
    rw [decide_eq_true h3, Bool.not_true, cond_false]
    have es : stemP w = aposP (othP (startP w) (consP (startP w) (mainP (startP w) w))) := by unfold stemP; rw [if_neg (by omega)]
    rw [es]
    generalize startP w = p at p3 pl
    obtain ⟨l1, l1'⟩ := main_len p3 pl
    obtain ⟨t1, φ1, s1, c1, b1, k1, e1⟩ := c_main l b k w p p3 pl hw
    rw [a_st1, s1, Option.bind_some, gd_true (dropB _), e1]
    generalize mainP p w = w1 at l1 l1'
    obtain ⟨l2, l2'⟩ := cons_len l1
    obtain ⟨t2, φ2, s2, c2, b2, k2, e2⟩ := c_cons l b1 k1 w1 p p3 l1 (by omega)
    have v1 : (w1.length : Int) - ((w.length : Int) - (w.length : Int)) = (w1.length : Int) := by omega
    rw [a_st5, v1, s2, Option.bind_some, gd_true (dropB _), e2]
    generalize consP p w1 = w2 at l2 l2'
    obtain ⟨l3, l3'⟩ := oth_len l2
    obtain ⟨t3, φ3, s3, c3, b3, k3, e3⟩ := c_oth l b2 k2 w2 p p3 l2 (by omega)
    have v2 : (w2.length : Int) - ((w1.length : Int) - (w1.length : Int)) = (w2.length : Int) := by omega
    rw [a_st8, v2, s3, Option.bind_some, gd_true (dropB _), e3]
    generalize othP p w2 = w3 at l3 l3'
    have v3 : (w3.length : Int) - ((w2.length : Int) - (w2.length : Int)) = (w3.length : Int) := by omega
    have v4 : (w3.length : Int) - 1 = ((w3.length - 1 : Nat) : Int) := by omega
    rw [a_st11, v3, v4, ap_sW, orT_spec w3 w3.length 39 (by omega) (Nat.le_refl _)]
    have q := endQ_get (w := w3) (by omega)
    unfold aposP
    by_cases h : w3.getD (w3.length - 1) 0 = 39
    · rw [if_pos h, if_pos (q.mp h)]
      obtain ⟨c', e⟩ := c_del (l + 1) ((w3.length - 1 : Nat) : Int) 0 p w3 (w3.length - 1) (by omega) (by omega)
      rw [e, Option.bind_some, gd_true dropN, a_st17]
      exact ⟨true, _, rfl, _, _, _, _, _, _, rfl⟩
    · rw [if_neg h, if_neg (fun z => h (q.mpr z))]
      exact ⟨false, _, rfl, _, _, _, _, _, _, rfl⟩
  · rw [decide_eq_false h3, Bool.not_false, cond_true]
    have es : stemP w = w := by unfold stemP; rw [if_pos (by omega)]
    rw [es]
    exact ⟨false, _, rfl, _, _, _, _, _, _, rfl⟩

/-- a word's stem, whatever the fields were -/
theorem c_word (w : Wd) (hw : w.length ≤ 40) {s : PySem.Str} {φ : Fld} (hφ : Flds φ s c lim lb b k) : ∃ φ', callN TT (l + 6) "stemWord" [.self, .str (sW w)] φ = some (.str (sW (stemP w)), φ') ∧ Done (stemP w) φ' := by
  have fin : ∀ {φ1 : Fld}, Flds φ1 (sW w) 0 w.length 0 0 w.length → ∀ (tn : Nat), (at_ (callN TT (l + 5)) tn "stemWord" true 29 1 ⟨rhWd (sW w), φ1⟩ = (callN TT (l + 5) "_stem" [.self] φ1).bind fun q => gd (droppable q.1) (at_ (callN TT (l + 5)) tn "stemWord" true 28 2 ⟨rhWd (sW w), q.2⟩)) →
      ∃ φ', at_ (callN TT (l + 5)) tn "stemWord" true 29 1 ⟨rhWd (sW w), φ1⟩ = some (.str (sW (stemP w)), φ') ∧ Done (stemP w) φ' := fun {φ1} h tn e => by
    obtain ⟨t, φ2, s1, c2, lim2, lb2, b2, k2, p2, e2⟩ := c_stem l 0 w.length w hw h
    rw [e, s1, Option.bind_some, gd_true (dropB _)]
    dsimp only
    rw [e2, a_wd2, c_get, Option.bind_some]
    exact ⟨_, rfl, _, _, _, _, _, _, rfl⟩
  rcases hφ with rfl | ⟨p, rfl⟩
  · rw [(call_run (l := l + 5) (by kernel_rfl)).trans (r_word6 ..), c_set6, Option.bind_some, gd_true dropN, sW_len]
    exact fin (.inl rfl) _ (a_wd1' ..)
  · rw [(call_run (l := l + 5) (by kernel_rfl)).trans (r_word ..), c_set, Option.bind_some, gd_true dropN, sW_len]
    exact fin (.inr ⟨_, rfl⟩) _ (a_wd1 ..)
theorem c_init : callN TT (l + 2) "__init__" [.self] [] = some (.none, fl6 (sW []) 0 0 0 0 0) := by
  rw [(call_run (l := l + 1) (by kernel_rfl)).trans (r_init ..), c_set0, nil_sW, sW_len]; rfl
end Nor
end

section
open PySem PySem.W NP
set_option Elab.async false
set_option maxRecDepth 100000
namespace Nor
variable (l : Nat) (φ : Fld)

noncomputable def strW (L : List Wd) : List MV := L.map fun e => .str (sW e)
theorem strsOf_map (l : List PySem.Str) : strsOf (l.map MV.str) = some l := by
  induction l with
  | nil => rfl
  | cons a l ih => rw [List.map_cons]; unfold strsOf; rw [ih]; rfl
theorem contains_map (L : List Wd) (y : Wd) : (L.map sW).contains (sW y) = L.contains y := by
  induction L with
  | nil => rfl
  | cons a l ih => rw [List.map_cons, List.contains_cons, List.contains_cons, ih, sW_beq]
theorem vow_eq : vowL = vL.map fun x => sW [x] := by kernel_rfl
theorem bef_eq : befL = sL.map fun x => sW [x] := by kernel_rfl
theorem cmp_in (x : PySem.Str) (M : List MV) : cmpMV .In (.str x) (.list M) = (strsOf M).bind fun l => some (.bool (l.contains x)) := rfl
theorem cmp_notin (x : PySem.Str) (M : List MV) : cmpMV .NotIn (.str x) (.list M) = (strsOf M).bind fun l => some (.bool (!l.contains x)) := rfl
theorem in_vow (x : Nat) : cmpMV .In (.str (sW [x])) (strL vowL) = some (.bool (isV x)) := by
  unfold strL
  rw [cmp_in, strsOf_map, Option.bind_some, vow_eq, contains_sW]; rfl
theorem notin_vow (x : Nat) : cmpMV .NotIn (.str (sW [x])) (strL vowL) = some (.bool (!isV x)) := by
  unfold strL
  rw [cmp_notin, strsOf_map, Option.bind_some, vow_eq, contains_sW]; rfl
theorem notin_bef (x : Nat) : cmpMV .NotIn (.str (sW [x])) (strL befL) = some (.bool (!isS x)) := by
  unfold strL
  rw [cmp_notin, strsOf_map, Option.bind_some, bef_eq, contains_sW]; rfl
theorem gl_main : gl "_law_main" = strW mainsAll := by kernel_rfl
theorem gl_third : gl "_law_third" = strW third := by kernel_rfl
theorem gl_pairs : gl "_law_pairs" = strW pairs := by kernel_rfl
theorem gl_stays : gl "_law_stays" = strW stays := by kernel_rfl
theorem gl_falls : gl "_law_falls" = strW falls := by kernel_rfl
theorem gl_never : gl "_law_never" = strW never := by kernel_rfl
theorem mainsL_eq : mainsL = strW ([] :: mainsW) := by kernel_rfl
theorem thirdS_eq : thirdS = third.map sW := by kernel_rfl

theorem c_vow : callN TT (l + 1) "_law_vowels" [] φ = some (strL vowL, φ) := (call_run (by kernel_rfl)).trans (r_vow ..)
theorem c_bef : callN TT (l + 1) "_law_before_s" [] φ = some (strL befL, φ) := (call_run (by kernel_rfl)).trans (r_bef ..)

theorem cl_spec (Φ : CallT) (tn : Nat) (t : Wd) (L : List MV) : ∀ (ls : List Wd) (o : Option MV), clF Φ tn (strW ls) ⟨clR (sW t) L o, φ⟩ = some (.bool (cl t ls), φ)
  | [], o => by
    show clF Φ tn [] _ = _
    rw [cl_nil]; rfl
  | e :: ls, o => by
    show clF Φ tn (.str (sW e) :: strW ls) _ = _
    rw [cl_cons, sW_en]
    have : cl t (e :: ls) = (ends t e || cl t ls) := rfl
    rw [this]
    cases ends t e with
    | true => rfl
    | false => rw [cond_false, Bool.false_or]; exact cl_spec Φ tn t L ls _
theorem c_closed (t : Wd) (L : List Wd) : callN TT (l + 1) "_law_closed" [.str (sW t), .list (strW L)] φ = some (.bool (cl t L), φ) :=
  (call_run (by kernel_rfl)).trans ((r_closed ..).trans (cl_spec φ _ _ t _ L none))

noncomputable def ups (a : Nat) : Nat → List MV
  | 0 => []
  | m + 1 => .int a :: ups (a + 1) m
theorem range_ups : ∀ (m a : Nat), ((List.range m).map fun (k : Nat) => MV.int ((a : Int) + (k : Int))) = ups a m
  | 0, _ => rfl
  | m + 1, a => by
    rw [List.range_succ_eq_map, List.map_cons, List.map_map]
    unfold ups
    have h0 : (a : Int) + ((0 : Nat) : Int) = a := by omega
    rw [h0, ← range_ups m (a + 1)]
    congr 1
    apply List.map_congr_left
    intro k _
    have h1 : (a : Int) + ((Nat.succ k : Nat) : Int) = ((a + 1 : Nat) : Int) + (k : Int) := by omega
    show MV.int _ = MV.int _
    rw [h1]
theorem rangeL_ups (a n : Nat) : rangeL (a : Int) (n : Int) 1 = ups a (n - a) := by
  unfold rangeL
  rw [decide_eq_true (by decide), cond_true]
  have : ((n : Int) - (a : Int)).toNat = n - a := by omega
  rw [this]
  exact range_ups _ _
theorem mx_nat (k : Nat) : mx 3 ((k : Int) + 1) = ((max 3 (k + 1) : Nat) : Int) := by
  unfold mx
  split <;> omega
theorem beq_q (w : Wd) (i : Nat) : (sg (sW w) (i : Int) == Q) = (w.getD i 0 == 39) := by
  rw [sW_sg, q_sW, Int.toNat_natCast, sW_beq]; simp

theorem s1_spec (Φ : CallT) (tn : Nat) (w : Wd) : ∀ (m c : Nat) (o : Option Int), c + m = w.length → ∃ o', s1F Φ tn (ups c m) ⟨stR (sW w) o, φ⟩ = match ap (w.drop c) c with
    | some k => some (.int (max 3 (k + 1) : Nat), φ)
    | none => at_ Φ tn "_law_start" false 29 1 ⟨stR (sW w) o', φ⟩
  | 0, c, o, h => by
    refine ⟨o, ?_⟩
    have : w.drop c = [] := List.drop_eq_nil_of_le (by omega)
    rw [this]
    exact s1_nil ..
  | m + 1, c, o, h => by
    unfold ups
    rw [s1_cons, gd_true (inB_nat (by omega)), beq_q, getD_drop (by omega)]
    unfold ap
    by_cases q : w.getD c 0 = 39
    · have : (w.getD c 0 == 39) = true := by simpa using q
      rw [if_pos q, this, cond_true, mx_nat]
      exact ⟨o, rfl⟩
    · have : (w.getD c 0 == 39) = false := by simpa using q
      rw [if_neg q, this, cond_false]
      exact s1_spec Φ tn w m (c + 1) _ (by omega)
theorem s2_spec (tn : Nat) (w : Wd) : ∀ (m c : Nat) (o : Option Int), 1 ≤ c → c + m = w.length → s2F (callN TT (l + 1)) tn (ups c m) ⟨stR (sW w) o, φ⟩ = match vc (w.drop c) (isV (w.getD (c - 1) 0)) c with
    | some k => some (.int (max 3 (k + 1) : Nat), φ)
    | none => some (.int w.length, φ)
  | 0, c, o, h1, h => by
    have : w.drop c = [] := List.drop_eq_nil_of_le (by omega)
    rw [this]
    refine (s2_nil ..).trans ?_
    rw [sW_len]; rfl
  | m + 1, c, o, h1, h => by
    unfold ups
    have ih := s2_spec tn w m (c + 1) (some c) (by omega) (by omega)
    have e1 : (c : Int) - 1 = ((c - 1 : Nat) : Int) := by omega
    rw [s2_cons, e1, gd_true (inB_nat (by omega)), c_vow, Option.bind_some, sW_sg, Int.toNat_natCast, in_vow, Option.bind_some, truthB, getD_drop (c := c) (by omega)]
    unfold vc
    have e2 : c + 1 - 1 = c := by omega
    rw [e2] at ih
    cases hv : isV (w.getD (c - 1) 0) with
    | false => rw [if_neg (fun h => Bool.noConfusion h.1), cond_false]; exact ih
    | true =>
      rw [cond_true, gd_true (inB_nat (by omega)), c_vow, Option.bind_some, sW_sg, Int.toNat_natCast, notin_vow, Option.bind_some, truthB]
      cases hn : isV (w.getD c 0) with
      | true =>
        rw [if_neg (fun h => Bool.noConfusion h.2), Bool.not_true, cond_false]
        rw [hn] at ih
        exact ih
      | false =>
        rw [if_pos ⟨rfl, rfl⟩, Bool.not_false, cond_true]
        unfold s2k
        rw [cond_true, mx_nat]
theorem c_start (w : Wd) (hw : w.length ≤ 40) : callN TT (l + 2) "_law_start" [.str (sW w)] φ = some (.int (startP w : Nat), φ) := by
  rw [(call_run (l := l + 1) (by kernel_rfl)).trans (r_start ..), sW_len, gd_true (fits_nat (by omega)), fits_nat (by omega), gd_true (by decide +kernel)]
  generalize turns = tn
  have z0 : rangeL 0 (w.length : Int) 1 = ups 0 (w.length - 0) := rangeL_ups 0 w.length
  obtain ⟨o', e⟩ := s1_spec φ (callN TT (l + 1)) tn w w.length 0 none (by omega)
  rw [z0, Nat.sub_zero, e, List.drop_zero]
  unfold startP
  cases ap w 0 with
  | some k => rfl
  | none =>
    dsimp only
    rw [a_start1, sW_len, fits_nat (by omega), gd_true (by decide +kernel), gd_true (by decide +kernel)]
    have z1 : rangeL 1 (w.length : Int) 1 = ups 1 (w.length - 1) := rangeL_ups 1 w.length
    rw [z1]
    cases w with
    | nil => exact s2_nil ..
    | cons x r =>
      rw [s2_spec l φ tn (x :: r) _ 1 o' (Nat.le_refl _) (by simp; omega)]
      have : vc (x :: r) false 0 = vc r (isV x) 1 := by
        conv => lhs; unfold vc
        rw [if_neg (fun h => Bool.noConfusion h.1)]
      rw [this]
      show (match vc r (isV x) 1 with
        | some k => _
        | none => _) = _
      cases vc r (isV x) 1 <;> rfl
end Nor
end

section
open PySem PySem.W NP
set_option Elab.async false
set_option maxRecDepth 100000
namespace Nor
variable (l : Nat) (φ : Fld)

theorem slice_from_to {R : Type} (w : Wd) (a : Nat) (h : a ≤ 1000) (k : MV → Option R) : sliceK (.str (sW w)) (some (.int a)) none k = k (.str (sW (w.drop a))) := by
  have e : sliceK (.str (sW w)) (some (.int a)) none k = bif okB a then k (.str (dr (sW w) (a : Int).toNat)) else none := rfl
  rw [e, okB_nat h, cond_true]; rfl
theorem ers_sW : ("ers" : PySem.Str) = sW ers := by kernel_rfl
theorem s_sW : ("s" : PySem.Str) = sW [115] := by kernel_rfl
theorem t_sW : ("t" : PySem.Str) = sW [116] := by kernel_rfl
theorem te_sW : ("te" : PySem.Str) = sW [116, 101] := by kernel_rfl
theorem ert_sW : ("ert" : PySem.Str) = sW [101, 114, 116] := by kernel_rfl
theorem erte_sW : ("erte" : PySem.Str) = sW [101, 114, 116, 101] := by kernel_rfl
theorem els_sW : ("els" : PySem.Str) = sW els := by kernel_rfl
theorem tsfB (t : Bool) (φ : Fld) (A B : Option (MV × Fld)) : tsf (.bool t, φ) A B = bif t then A else B := rfl
theorem sg_beq (w : Wd) (i x : Nat) : (sg (sW w) (i : Int) == sW [x]) = (w.getD i 0 == x) := by
  rw [sW_sg, Int.toNat_natCast, sW_beq]; simp

theorem c_own (w : Wd) (hw : w.length ≤ 40) : callN TT (l + 3) "_law_own" [.str (sW w)] φ = some (.bool (ownP w), φ) := by
  rw [(call_run (l := l + 2) (by kernel_rfl)).trans (r_own ..), sW_len, ap_sW, sW_en]
  generalize turns = tn
  unfold ownP
  by_cases h3 : w.length < 3
  · rw [decide_eq_true (show (w.length : Int) < 3 by omega), cond_true, if_pos h3]
  · rw [decide_eq_false (show ¬ (w.length : Int) < 3 by omega), cond_false, if_neg h3]
    have q : ends w [39] = endQ w := rfl
    rw [q]
    cases endQ w with
    | true => rfl
    | false =>
      obtain ⟨p3, pl⟩ := start_ge (Nat.le_of_not_lt h3)
      rw [cond_false, if_neg (by decide), c_start l φ w hw, Option.bind_some]
      dsimp only
      rw [slice_from_to _ _ (by omega)]
      generalize hg : w.drop (startP w) = g
      have u : ∀ i (f : Fld), at_ (callN TT (l + 2)) tn "_law_own" false 27 i ⟨[("word", .str (sW w)), ("tail", .str (sW g))], f⟩ = at_ (callN TT (l + 2)) tn "_law_own" false 27 i ⟨wtR (sW w) (sW g), f⟩ := fun _ _ => rfl
      rw [u, a_own3, gl_never, c_closed, Option.bind_some, tsfB]
      cases cl g never with
      | true => rfl
      | false =>
        rw [cond_false, if_neg (by decide), a_own4, ers_sW, sW_en]
        cases ends g ers with
        | true =>
          have e3 : (((sW w).length : Int) - 3) = ((w.length - 3 : Nat) : Int) := by rw [sW_len]; omega
          rw [cond_true, if_pos rfl, e3, gd_true (okB_nat (by omega)), Int.toNat_natCast, sW_tk, gl_stays, c_closed, Option.bind_some, truthB, gl_falls]
          cases cl (w.take (w.length - 3)) stays with
          | false => rfl
          | true =>
            rw [cond_true, c_closed, Option.bind_some, truthB]; rfl
        | false =>
          rw [cond_false, if_neg (by decide), a_own5, s_sW, sW_en]
          cases ends g [115] with
          | false => rfl
          | true =>
            have e3 : (((sW w).length : Int) - 3) = ((w.length - 3 : Nat) : Int) := by rw [sW_len]; omega
            have e2 : (((sW w).length : Int) - 2) = ((w.length - 2 : Nat) : Int) := by rw [sW_len]; omega
            rw [cond_true, if_pos rfl, e3, e2, gd_true (inB_nat (by omega)), gd_true (inB_nat (by omega)), r_sW, k_sW, e_sW, sg_beq, sg_beq, sg_beq, c_vow, c_bef, Option.bind_some, Option.bind_some, sW_sg, sW_sg, Int.toNat_natCast, Int.toNat_natCast, in_vow, notin_bef, Option.bind_some, Option.bind_some]
            unfold sOwn
            by_cases k1 : w.getD (w.length - 2) 0 = 114
            · have : (w.getD (w.length - 2) 0 == 114) = true := by simpa using k1
              rw [this, if_pos k1, cond_true]
            · have : (w.getD (w.length - 2) 0 == 114) = false := by simpa using k1
              rw [this, if_neg k1, cond_false]
              by_cases k2 : w.getD (w.length - 2) 0 = 107
              · have : (w.getD (w.length - 2) 0 == 107) = true := by simpa using k2
                rw [this, if_pos k2, cond_true]
              · have : (w.getD (w.length - 2) 0 == 107) = false := by simpa using k2
                rw [this, if_neg k2, cond_false]

theorem on_spec (tn : Nat) (w t e : Wd) (hw : w.length ≤ 100) (ht : t.length ≤ w.length) : ∀ (ls : List Wd) (o : Option (PySem.Str × Option PySem.Str)), (∀ m ∈ ls, m.length ≤ 10) →
    onF (callN TT (l + 1)) tn (strW ls) ⟨onR (sW w) (sW t) (sW e) (!cl e third) o, φ⟩ = some (.bool (ls.any (hit w t e)), φ)
  | [], o, _ => by
    show onF _ _ [] _ = _
    rw [on_nil]; rfl
  | m :: ls, o, hm => by
    have ih := fun o => on_spec tn w t e hw ht ls o fun m h => hm m (List.mem_cons_of_mem _ h)
    show onF _ _ (.str (sW m) :: strW ls) _ = _
    have lm := hm m (List.mem_cons_self ..)
    rw [on_cons, sW_en, List.any_cons]
    generalize ls.any (hit w t e) = z at ih
    unfold hit
    by_cases h : ends t m = true
    · have hl := (ends_iff.mp h).length_le
      have e1 : (((sW t).length : Int) - ((sW m).length : Int)) = ((t.length - m.length : Nat) : Int) := by rw [sW_len, sW_len]; omega
      rw [h, cond_true, Bool.true_and, e1, gd_true (okB_nat (by omega)), Int.toNat_natCast, sW_tk, on_1]
      generalize hr : t.take (t.length - m.length) = r
      have lr : r.length ≤ 100 := by rw [← hr, List.length_take]; omega
      dsimp only
      have n1 : (sW r != "els") = (r != els) := by rw [els_sW]; unfold bne; rw [sW_beq]
      have n2 : (sW m != "") = (m != []) := by rw [nil_sW]; unfold bne; rw [sW_beq]
      have n3 : (sW r == "") = (r == []) := by rw [nil_sW, sW_beq]
      rw [thirdS_eq, contains_map, n1, n2]
      cases hA : third.contains r && (r != els || m != []) with
      | true =>
        rw [Bool.and_eq_true] at hA
        rw [hA.1]
        have hB := hA.2
        cases q : r != els with
        | true => rfl
        | false =>
          rw [q, Bool.false_or] at hB
          rw [hB]; rfl
      | false =>
        have step : ∀ X : Option (MV × Fld), (bif third.contains r then bif !(r != els) then bif !(m != []) then (bif false then bif true then fT φ else X else bif false then fT φ else X) else (bif m != [] then bif true then fT φ else X else bif m != [] then fT φ else X) else (bif r != els then bif true then fT φ else X else bif r != els then fT φ else X) else bif third.contains r then fT φ else X) = X := fun X => by
          revert hA
          cases third.contains r <;> cases r != els <;> cases m != [] <;> intro hA <;> first | rfl | cases hA
        refine (step _).trans ?_
        rw [on_2, n3, gl_pairs, c_closed]
        dsimp only
        rw [Option.bind_some, truthB, Bool.false_or]
        cases hD : (r == [] && !cl e third && !cl e pairs) with
        | true =>
          rw [Bool.and_eq_true, Bool.and_eq_true] at hD
          rw [hD.1.1, hD.1.2, hD.2]; rfl
        | false =>
          have step2 : ∀ X : Option (MV × Fld), (bif r == [] then bif !cl e third then bif !cl e pairs then (bif true then fT φ else X) else (bif !cl e pairs then fT φ else X) else (bif !cl e third then fT φ else X) else (bif r == [] then fT φ else X)) = X := fun X => by
            revert hD
            cases r == [] <;> cases cl e third <;> cases cl e pairs <;> intro hD <;> first | rfl | cases hD
          refine (step2 _).trans ?_
          rw [on_3, t_sW, sW_en, Bool.false_or]
          by_cases hG : ends r [116] = true
          · have lt1 := (ends_iff.mp hG).length_le
            have e2 : (((sW w).length : Int) - ((sW m).length : Int)) = ((w.length - m.length : Nat) : Int) := by rw [sW_len, sW_len]; omega
            rw [hG, cond_true, Bool.true_and, e2, gd_true (okB_nat (by omega)), Int.toNat_natCast, sW_tk, gl_pairs, c_closed, Option.bind_some, truthB]
            cases hH : cl (w.take (w.length - m.length)) pairs with
            | false =>
              rw [Bool.false_and]
              exact ih _
            | true =>
              have lt2 : 1 ≤ r.length := lt1
              have e3 : (((sW r).length : Int) - 1) = ((r.length - 1 : Nat) : Int) := by rw [sW_len]; omega
              rw [cond_true]
              dsimp only
              rw [cond_true, on_C, e3, gd_true (okB_nat (by omega)), Int.toNat_natCast, sW_tk, Bool.true_and]
              generalize r.take (r.length - 1) = r'
              dsimp only
              have n4 : (sW r' == "") = (r' == []) := by rw [nil_sW, sW_beq]
              rw [thirdS_eq, contains_map, n4]
              cases third.contains r' with
              | true => rfl
              | false =>
                cases r' == [] with
                | false => exact ih _
                | true =>
                  cases hc : cl e third with
                  | false => rfl
                  | true => rw [hc] at ih; exact ih _
          · rw [Bool.not_eq_true] at hG
            rw [hG, cond_false, Bool.false_and, Bool.false_and]
            exact ih _
    · rw [Bool.not_eq_true] at h
      rw [h, cond_false, Bool.false_and, Bool.false_or]
      exact ih _

theorem mains_small : ∀ m ∈ ([] :: mainsW), m.length ≤ 10 := by decide +kernel
theorem c_once (w t e : Wd) (hw : w.length ≤ 100) (ht : t.length ≤ w.length) : callN TT (l + 2) "_law_once" [.str (sW w), .str (sW t), .str (sW e)] φ = some (.bool (onceP w t e), φ) := by
  rw [(call_run (l := l + 1) (by kernel_rfl)).trans (r_once ..)]
  generalize turns = tn
  rw [t_sW, te_sW, ert_sW, erte_sW, sW_beq, sW_beq, sW_en, sW_en, gl_third, c_closed, Option.bind_some, truthB]
  unfold onceP
  have rest : at_ (callN TT (l + 1)) tn "_law_once" false 28 2 ⟨onR (sW w) (sW t) (sW e) (!cl e third) none, φ⟩ = some (.bool (([] :: mainsW).any (hit w t e)), φ) := by
    rw [a_once2, mainsL_eq]
    exact on_spec l φ tn w t e hw ht _ _ mains_small
  rw [rest]
  generalize ([] :: mainsW).any (hit w t e) = z
  cases t == [116] <;> cases ends w [101, 114, 116] <;> cases t == [116, 101] <;> cases ends w [101, 114, 116, 101] <;> cases z <;> rfl
end Nor
end

section
open PySem PySem.W NP
set_option Elab.async false
set_option maxRecDepth 100000
namespace Nor
variable (l : Nat) (φ : Fld)

theorem passB (q : MV × Fld) : pass q = some q := rfl
theorem c_fits (w s : Wd) (hw : w.length ≤ 40) (h3 : 3 ≤ w.length) : callN TT (l + 3) "_law_fits" [.str (sW w), .str (sW s)] φ = some (.bool (fitsP w s), φ) := by
  rw [(call_run (l := l + 2) (by kernel_rfl)).trans (r_fits ..), sW_len, sW_len]
  generalize turns = tn
  unfold fitsP
  by_cases hz : w.length ≤ s.length
  · rw [if_pos (.inl hz), decide_eq_true (show (w.length : Int) ≤ s.length by omega)]; rfl
  · have ht : (tk (sW w) ((s.length : Int)).toNat != sW s) = (w.take s.length != s) := by
      rw [Int.toNat_natCast, sW_tk]; unfold bne; rw [sW_beq]
    rw [decide_eq_false (show ¬ (w.length : Int) ≤ s.length by omega), Bool.not_false, cond_true, gd_true (okB_nat (by omega)), ht]
    by_cases hq : w.take s.length = s
    · have hq' : (w.take s.length != s) = false := by simpa using hq
      obtain ⟨p3, pl⟩ := start_ge h3
      rw [if_neg (fun h => h.elim hz fun h => h hq), hq', Bool.not_false, cond_true, c_start l φ w hw, Option.bind_some]
      unfold fiGo
      dsimp only
      rw [sW_len, a_fits3]
      dsimp only
      generalize startP w = st at p3 pl
      have sq : (sg (sW w) (s.length : Int) != Q) = (w.getD s.length 0 != 39) := sg_q ..
      have c2 : (s.length : Int) < (st : Int) - 1 ↔ s.length < st - 1 := by omega
      have c1 : (s.length : Int) < (st : Int) ↔ s.length < st := by omega
      rw [sq, inB_nat (by omega), decide_eq_decide.mpr c2, decide_eq_decide.mpr c1]
      have main : at_ (callN TT (l + 2)) tn "_law_fits" false 26 4 ⟨fiS (sW w) (sW s) s.length (.int st), φ⟩ = some (.bool (if w.getD s.length 0 = 39 then onceP w (w.drop (s.length + 1)) ((w.take (s.length + 1)).drop st) else !endQ s && onceP w (w.drop s.length) (s.drop st)), φ) := by
        rw [a_fits4, gd_true (inB_nat (by omega)), beq_q]
        by_cases h39 : w.getD s.length 0 = 39
        · have h39' : (w.getD s.length 0 == 39) = true := by simpa using h39
          have e1 : (s.length : Int) + 1 = ((s.length + 1 : Nat) : Int) := by omega
          rw [h39', cond_true, if_pos h39, e1, gd_true (okB_nat (by omega)), gd_true (okB_nat (by omega)), gd_true (okB_nat (by omega)), Int.toNat_natCast, Int.toNat_natCast, sW_dr, sW_cut, c_once _ _ _ _ _ (by omega) (by rw [List.length_drop]; omega)]; rfl
        · have h39' : (w.getD s.length 0 == 39) = false := by simpa using h39
          have eq : en (sW s) Q = endQ s := by rw [q_sW, sW_en]; rfl
          rw [h39', cond_false, if_neg h39, a_fits5, eq]
          cases endQ s with
          | true => rfl
          | false =>
            rw [Bool.not_false, cond_true, gd_true (okB_nat (by omega)), gd_true (okB_nat (by omega)), Int.toNat_natCast, Int.toNat_natCast, sW_dr, sW_dr, c_once _ _ _ _ _ (by omega) (by rw [List.length_drop]; omega)]; rfl
      rw [main]
      generalize (if w.getD s.length 0 = 39 then onceP w (w.drop (s.length + 1)) ((w.take (s.length + 1)).drop st) else !endQ s && onceP w (w.drop s.length) (s.drop st)) = X
      by_cases b1 : s.length < st
      · rw [decide_eq_true b1]
        by_cases b2 : s.length < st - 1
        · rw [decide_eq_true b2, if_pos ⟨b1, .inl b2⟩]; rfl
        · rw [decide_eq_false b2]
          by_cases b3 : w.getD s.length 0 = 39
          · have b3' : (w.getD s.length 0 != 39) = false := by simpa using b3
            rw [b3', if_neg (fun h => h.2.elim b2 fun h => h b3)]; rfl
          · have b3' : (w.getD s.length 0 != 39) = true := by simpa using b3
            rw [b3', if_pos ⟨b1, .inr b3⟩]; rfl
      · rw [decide_eq_false b1, if_neg (fun h => b1 h.1)]; rfl
    · have hq' : (w.take s.length != s) = true := by simpa using hq
      rw [if_pos (.inr hq), hq']; rfl

/-! the least words -/
noncomputable def sgL : Wd := [97, 98, 99, 100, 101, 102, 103, 104, 105, 106, 107, 108, 109, 110, 111, 112, 113, 114, 115, 116, 117, 118, 119, 120, 121, 122, 230, 248, 229, 234, 242, 243, 244, 39]
theorem signS_eq : signS = sW sgL := by kernel_rfl
theorem sgL_get : ∀ i, i < 26 → sgL.getD i 0 = 97 + i := by decide +kernel
noncomputable def dig : Nat → Nat → Wd → Wd
  | 0, _, u => u
  | m + 1, n, u => dig m (n / 26) ((97 + n % 26) :: u)
theorem dig_len : ∀ (m n : Nat) (u : Wd), (dig m n u).length = m + u.length
  | 0, _, _ => by simp [dig]
  | m + 1, n, u => by unfold dig; rw [dig_len m]; simp only [List.length_cons]; omega
theorem dig_39 : ∀ (m n : Nat) (u : Wd), 39 ∉ u → 39 ∉ dig m n u
  | 0, _, _, h => h
  | m + 1, n, u, h => by
    unfold dig
    refine dig_39 m _ _ fun q => ?_
    rcases List.mem_cons.mp q with q | q
    · omega
    · exact h q
theorem ls2_spec (Φ : CallT) (tn : Nat) (z ct : Int) : ∀ (m c n : Nat) (v : MV) (u : Wd), m + u.length ≤ 40 → lsF2 Φ tn (ups c m) ⟨lsR2 n z ct v (sW u), φ⟩ = some (.str (sW (dig m n u)), φ)
  | 0, c, n, v, u, _ => ls2_nil ..
  | m + 1, c, n, v, u, h => by
    have e1 : Int.fmod (n : Int) 26 = ((n % 26 : Nat) : Int) := by rw [Int.fmod_eq_emod_of_nonneg _ (by decide)]; omega
    have e2 : Int.fdiv (n : Int) 26 = ((n / 26 : Nat) : Int) := by rw [Int.fdiv_eq_ediv_of_nonneg _ (by decide)]; omega
    unfold ups
    have l26 : n % 26 < 26 := Nat.mod_lt _ (by decide)
    have ls : sgL.length = 34 := rfl
    rw [ls2_cons, e1, e2, signS_eq, gd_true (inB_nat (by omega)), sW_sg, Int.toNat_natCast, sgL_get _ l26, gd_true (addB_sW (by simp only [List.length_singleton]; omega)), sW_app, List.singleton_append, ls2_spec Φ tn z ct m (c + 1) (n / 26) _ _ (by simp only [List.length_cons]; omega)]
    rfl
/-- a least word: small letters, and its region one sign at most -/
noncomputable def Least (u : Wd) : Prop := 39 ∉ u ∧ u.length ≤ startP u + 1 ∧ u.length ≤ 5
theorem least_few {u : Wd} (h : 39 ∉ u) (l : u.length ≤ 4) : Least u := by
  refine ⟨h, ?_, by omega⟩
  by_cases h3 : 3 ≤ u.length
  · have := start_ge h3; omega
  · unfold startP
    rw [ap_none _ _ h]
    dsimp only
    cases vc u false 0 with
    | none => dsimp only; omega
    | some k => dsimp only; omega
theorem least_five {n : Nat} (h : n < 676) : Least (dig 5 n []) := by
  have e : dig 5 n [] = [97, 97, 97, 97 + n / 26 % 26, 97 + n % 26] := by
    show [97 + n / 26 / 26 / 26 / 26 % 26, 97 + n / 26 / 26 / 26 % 26, 97 + n / 26 / 26 % 26, 97 + n / 26 % 26, 97 + n % 26] = _
    have a : n / 26 / 26 = 0 := by omega
    rw [a]
  have q := dig_39 5 n [] List.not_mem_nil
  rw [e] at q ⊢
  generalize 97 + n / 26 % 26 = a at q
  generalize 97 + n % 26 = b at q
  refine ⟨q, ?_, Nat.le_refl _⟩
  unfold startP
  rw [ap_none _ _ q]
  dsimp only
  have v97 : isV 97 = true := by decide +kernel
  have ev : vc [97, 97, 97, a, b] false 0 = if isV a = false then some 3 else if isV b = false then some 4 else none := by
    simp only [vc, v97]
    cases isV a <;> cases isV b <;> rfl
  rw [ev]
  cases isV a <;> cases isV b <;> simp

theorem ls3_spec (Φ : CallT) (tn : Nat) (n z : Nat) (ct : Int) (v : MV) (hz : z ≤ 6) : at_ Φ tn "_law_least" false 27 3 ⟨lsR n z ct (some v), φ⟩ = some (.str (sW (dig z n [])), φ) := by
  rw [a_ls3, fits_nat (by omega), gd_true rfl, gd_true (by decide +kernel)]
  have z0 : rangeL 0 (z : Int) 1 = ups 0 (z - 0) := rangeL_ups 0 z
  rw [z0, Nat.sub_zero, nil_sW]
  exact ls2_spec φ Φ tn z ct z 0 n v [] (by simp; omega)
theorem ls1_more (Φ : CallT) (tn : Nat) (n z ct : Nat) (v : MV) (o : Option MV) (ls : List MV) (h : ct ≤ n) (hc : ct ≤ 1000000) : lsF1 Φ tn (v :: ls) ⟨lsR n z ct o, φ⟩ = lsF1 Φ tn ls ⟨lsR (n - ct : Nat) (z + 1 : Nat) (ct * 26 : Nat) (some v), φ⟩ := by
  have f : fits (ct : Int) = true := by
    unfold fits
    rw [Bool.and_eq_true, decide_eq_true_iff, decide_eq_true_iff]; omega
  have e : (n : Int) - (ct : Int) = ((n - ct : Nat) : Int) := by omega
  rw [ls1_cons, decide_eq_true (show (ct : Int) ≤ n by omega), cond_true, f, gd_true (by decide +kernel), e]
  rfl
theorem ls1_stop (Φ : CallT) (tn : Nat) (n z ct : Nat) (v : MV) (o : Option MV) (ls : List MV) (h : n < ct) (hz : z ≤ 6) : lsF1 Φ tn (v :: ls) ⟨lsR n z ct o, φ⟩ = some (.str (sW (dig z n [])), φ) := by
  rw [ls1_cons, decide_eq_false (show ¬ (ct : Int) ≤ n by omega), cond_false]
  exact ls3_spec φ Φ tn n z ct v hz
theorem c_least (n : Nat) (h : n < 475931) : ∃ u, callN TT (l + 1) "_law_least" [.int n] φ = some (.str (sW u), φ) ∧ Least u := by
  have few : ∀ m n, m ≤ 4 → Least (dig m n []) := fun m n h => least_few (dig_39 _ _ _ List.not_mem_nil) (by rw [dig_len]; simpa using h)
  rw [(call_run (l := l) (by kernel_rfl)).trans (r_least ..)]
  generalize turns = tn
  unfold sixL
  have start : ∀ L, lsF1 (callN TT l) tn L ⟨lsR (n : Int) 0 1 none, φ⟩ = lsF1 (callN TT l) tn L ⟨lsR (n : Int) (0 : Nat) (1 : Nat) none, φ⟩ := fun _ => rfl
  rw [start]
  by_cases h0 : n < 1
  · rw [ls1_stop _ _ _ _ _ _ _ _ _ h0 (by decide)]
    exact ⟨_, rfl, few _ _ (by decide)⟩
  rw [ls1_more _ _ _ _ _ _ _ _ _ (by omega) (by decide)]
  by_cases h1 : n < 27
  · rw [ls1_stop _ _ _ _ _ _ _ _ _ (by omega) (by decide)]
    exact ⟨_, rfl, few _ _ (by decide)⟩
  rw [ls1_more _ _ _ _ _ _ _ _ _ (by omega) (by decide)]
  by_cases h2 : n < 703
  · rw [ls1_stop _ _ _ _ _ _ _ _ _ (by omega) (by decide)]
    exact ⟨_, rfl, few _ _ (by decide)⟩
  rw [ls1_more _ _ _ _ _ _ _ _ _ (by omega) (by decide)]
  by_cases h3 : n < 18279
  · rw [ls1_stop _ _ _ _ _ _ _ _ _ (by omega) (by decide)]
    exact ⟨_, rfl, few _ _ (by decide)⟩
  rw [ls1_more _ _ _ _ _ _ _ _ _ (by omega) (by decide)]
  by_cases h4 : n < 475255
  · rw [ls1_stop _ _ _ _ _ _ _ _ _ (by omega) (by decide)]
    exact ⟨_, rfl, few _ _ (by decide)⟩
  rw [ls1_more _ _ _ _ _ _ _ _ _ (by omega) (by decide), ls1_stop _ _ _ _ _ _ _ _ _ (by omega) (by decide)]
  exact ⟨_, rfl, least_five (by omega)⟩

/-! the word -/
theorem parts_ok : partsL.all (fun v => match v with
    | .str s => Nat.ble s.length 10
    | _ => false) = true := by kernel_rfl
theorem parts_len : partsL.length = 98 := by kernel_rfl
theorem str_sW (s : PySem.Str) : s = sW s.cps.toList := rfl
theorem wd_spec (Φ : CallT) (tn : Nat) (L : List MV) : ∀ (ls : List Int) (w : Wd) (o : Option (Int × Int × MV)), w.length ≤ 26 →
    ∃ u : Wd, u.length ≤ 26 ∧ wdF Φ tn (ls.map MV.int) ⟨wdR L partsL 102 (sW w) o, φ⟩ = some (.str (sW u), φ)
  | [], w, o, h => ⟨w, h, wd_nil ..⟩
  | n :: ls, w, o, h => by
    have ih := wd_spec Φ tn L ls
    have add : ∀ (s : PySem.Str) (k : Int), s.length ≤ 10 → ∃ u : Wd, u.length ≤ 26 ∧ wdC Φ tn (ls.map MV.int) ⟨wdR L partsL 102 (sW w) (some (n, k, .str s)), φ⟩ = some (.str (sW u), φ) := fun s k hs => by
      rw [str_sW s, sW_len] at hs
      rw [str_sW s]
      generalize s.cps.toList = v at hs
      rw [wd_C, sW_len, sW_len]
      by_cases h26 : w.length + v.length ≤ 26
      · rw [decide_eq_true (show (w.length : Int) + v.length ≤ 26 by omega), cond_true, gd_true (addB_sW (by omega)), sW_app]
        exact ih _ _ (by rw [List.length_append]; omega)
      · rw [decide_eq_false (show ¬ (w.length : Int) + v.length ≤ 26 by omega), cond_false]
        exact ih _ _ h
    have z102 : (!((102 : Int) == 0)) = true := by decide
    rw [List.map_cons, wd_cons, gd_true z102, parts_len]
    have m0 : 0 ≤ n.fmod 102 := Int.fmod_nonneg_of_pos _ (by decide)
    by_cases hk : n.fmod 102 < (98 : Nat)
    · rw [decide_eq_true hk, cond_true, decide_eq_true m0, Bool.and_true, gd_true rfl]
      have hi : (n.fmod 102).toNat < partsL.length := by rw [parts_len]; omega
      rw [List.getElem?_eq_getElem hi, Option.bind_some]
      have ok := List.all_eq_true.mp parts_ok _ (List.getElem_mem hi)
      generalize partsL[(n.fmod 102).toNat] = v at ok
      cases v with
      | str s => exact add s _ (Nat.ble_eq.mp ok)
      | _ => cases ok
    · rw [decide_eq_false hk, cond_false, gd_true z102]
      have q0 : 0 ≤ (n.fdiv 102).fmod 1000 := Int.fmod_nonneg_of_pos _ (by decide)
      have q1 : (n.fdiv 102).fmod 1000 < 1000 := Int.fmod_lt_of_pos _ (by decide)
      rw [decide_eq_true (show (0 : Int) ≤ 32 + (n.fdiv 102).fmod 1000 by omega), decide_eq_true (show 32 + (n.fdiv 102).fmod 1000 ≤ (1000000 : Int) by omega), Bool.and_true, gd_true rfl]
      exact add _ _ (show (1 : Nat) ≤ 10 by decide)
theorem c_lawWord (il : List Int) : ∃ u : Wd, u.length ≤ 26 ∧ callN TT (l + 1) "_law_word" [.list (il.map MV.int)] φ = some (.str (sW u), φ) := by
  rw [(call_run (l := l) (by kernel_rfl)).trans (r_lawWord ..)]
  have e : cut MV (il.map MV.int) 0 (some 20) = (il.take 20).map MV.int := by
    show ((il.map MV.int).take 20).drop 0 = _
    rw [List.drop_zero, List.map_take]
  rw [a_word3, e, nil_sW]
  exact wd_spec φ _ _ _ _ [] _ (by decide)
end Nor
end

section
open PySem PySem.W NP
set_option Elab.async false
set_option maxRecDepth 100000
namespace Nor

theorem cmp_ne_b (a b : Bool) : cmpMV .NotEq (.bool a) (.bool b) = some (.bool (a != b)) := rfl
theorem cmp_ne_s (a b : PySem.Str) : cmpMV .NotEq (.str a) (.str b) = some (.bool (a != b)) := rfl
theorem fits_lt {w s : Wd} (h : fitsP w s = true) : s.length < w.length := by
  unfold fitsP at h
  refine Nat.lt_of_not_le fun g => ?_
  rw [if_pos (.inl g)] at h
  cases h
theorem done_flds {w : Wd} {φ : Fld} (h : Done w φ) : ∃ c lim lb b k p : Int, φ = flo (sW w) c lim lb b k (some p) := h

/-- one turn of the law's loop -/
theorem turn_spec (tn : Nat) (l : List MV) (w : Wd) (hw : w.length ≤ 40) (v : MV) (ls : List MV) (o : Option (MV × MV)) (s : PySem.Str) (c lim lb b k : Int) (op : Option Int) :
    ∃ φ', Done (stemP w) φ' ∧ ((lwF (callN TT 9) tn (v :: ls) ⟨lwR l (sW w) o, flo s c lim lb b k op⟩ = lw (callN TT 9) tn 28 2 ⟨lwR l (sW w) (some (v, .str (sW (stemP w)))), φ'⟩) ∨
      ((stemP w).length ≤ 40 ∧ lwF (callN TT 9) tn (v :: ls) ⟨lwR l (sW w) o, flo s c lim lb b k op⟩ = lwF (callN TT 9) tn ls ⟨lwR l (sW (stemP w)) (some (v, .str (sW (stemP w)))), φ'⟩)) := by
  have fl : Flds (flo s c lim lb b k op) s c lim lb b k := by
    cases op with
    | none => exact .inl rfl
    | some p => exact .inr ⟨p, rfl⟩
  obtain ⟨φ', e, dn⟩ := c_word 3 c lim lb b k w hw fl
  refine ⟨φ', dn, ?_⟩
  have own := c_own 6 φ' w hw
  rw [l_cons, e, Option.bind_some, l_1, own, Option.bind_some, cmp_ne_b, Option.bind_some, truthB, sW_beq, stem_own]
  have : (ownP w != ownP w) = false := by simp
  rw [this, cond_false, l_2, sW_beq]
  by_cases h : stemP w = w
  · have hb : (stemP w == w) = true := by simpa using h
    rw [hb, cond_true]
    exact .inl rfl
  · have hb : (stemP w == w) = false := by simpa using h
    have h3 : 3 ≤ w.length := Nat.le_of_not_lt fun q => h (by unfold stemP; rw [if_pos q])
    have f := stem_fits h
    have lt := fits_lt f
    rw [hb, cond_false, c_fits 6 φ' w (stemP w) hw h3, Option.bind_some, truthB, f]
    exact .inr ⟨by omega, rfl⟩

/-- the law's loop ends, with a stem at hand -/
theorem loop_spec (tn : Nat) (l : List MV) : ∀ (ls : List MV) (w : Wd) (_ : w.length ≤ 40) (v : MV) (ls' : List MV) (o : Option (MV × MV)) (s : PySem.Str) (c lim lb b k : Int) (op : Option Int) (_ : ls' = v :: ls),
    ∃ (w' x : Wd) (v' : MV) (φ' : Fld), Done x φ' ∧ lwF (callN TT 9) tn ls' ⟨lwR l (sW w) o, flo s c lim lb b k op⟩ = lw (callN TT 9) tn 28 2 ⟨lwR l (sW w') (some (v', .str (sW x))), φ'⟩
  | [], w, hw, v, _, o, s, c, lim, lb, b, k, op, rfl => by
    obtain ⟨φ', dn, e | ⟨_, e⟩⟩ := turn_spec tn l w hw v [] o s c lim lb b k op
    · exact ⟨_, _, _, φ', dn, e⟩
    · exact ⟨_, _, _, φ', dn, e.trans (l_nil ..)⟩
  | u :: ls, w, hw, v, _, o, s, c, lim, lb, b, k, op, rfl => by
    obtain ⟨φ', dn, e | ⟨hl, e⟩⟩ := turn_spec tn l w hw v (u :: ls) o s c lim lb b k op
    · exact ⟨_, _, _, φ', dn, e⟩
    · obtain ⟨c', lim', lb', b', k', p', rfl⟩ := done_flds dn
      obtain ⟨w', x, v', φ2, dn2, e2⟩ := loop_spec tn l ls (stemP w) hl u (u :: ls) (some (v, .str (sW (stemP w)))) (sW (stemP w)) c' lim' lb' b' k' (some p') rfl
      exact ⟨w', x, v', φ2, dn2, e.trans e2⟩

theorem aabaa_sW : ("aabaa" : PySem.Str) = sW [97, 97, 98, 97, 97] := by kernel_rfl
theorem aaba_sW : ("aaba" : PySem.Str) = sW [97, 97, 98, 97] := by kernel_rfl
theorem aab_sW : ("aab" : PySem.Str) = sW [97, 97, 98] := by kernel_rfl
theorem noF_fld (cur : PySem.Str) (c lim lb b k p : Int) : noF (fld cur c lim lb b k p) = true := by kernel_rfl

/-- the law behind its loop -/
theorem tail_spec (tn : Nat) (l : List MV) (h : PySem.Str) (v s : MV) (u x : Wd) (hu : Least u) (hx : x = stemP u) {φ : Fld} (dn : Done x φ) : ∃ σ', lw (callN TT 9) tn 27 3 ⟨lwL l h v s (.str (sW x)), φ⟩ = some (.ret (.bool true), σ') := by
  have tw : stemP x = x := by rw [hx]; exact stem_twice hu.1 hu.2.1
  have lx : x.length ≤ 40 := by
    by_cases e : stemP u = u
    · rw [hx, e]; have := hu.2.2; omega
    · have := fits_lt (stem_fits e)
      rw [← hx] at this
      have := hu.2.2; omega
  obtain ⟨c, lim, lb, b, k, p, rfl⟩ := dn
  obtain ⟨φ1, e1, c1, lim1, lb1, b1, k1, p1, rfl⟩ := c_word 3 c lim lb b k x lx (.inr ⟨p, rfl⟩)
  rw [l_3, e1, tw, Option.bind_some, cmp_ne_s, Option.bind_some, truthB]
  have : (sW x != sW x) = false := by simp
  rw [this, cond_false, l_4, aabaa_sW, aaba_sW, aab_sW]
  obtain ⟨w1, w2, w3⟩ := last_words
  obtain ⟨φ2, e2, c2, lim2, lb2, b2, k2, p2, rfl⟩ := c_word 3 c1 lim1 lb1 b1 k1 [97, 97, 98, 97, 97] (by decide) (s := sW x) (.inr ⟨p1, rfl⟩)
  obtain ⟨φ3, e3, c3, lim3, lb3, b3, k3, p3, rfl⟩ := c_word 3 c2 lim2 lb2 b2 k2 [97, 97, 98, 97] (by decide) (s := sW [97, 97, 98, 97]) (.inr ⟨p2, rfl⟩)
  obtain ⟨φ4, e4, c4, lim4, lb4, b4, k4, p4, rfl⟩ := c_word 3 c3 lim3 lb3 b3 k3 [97, 97, 98] (by decide) (s := sW [97, 97, 98]) (.inr ⟨p3, rfl⟩)
  rw [w1] at e2
  rw [w2] at e3
  rw [w3] at e4
  rw [tw] at e1
  rw [e2, Option.bind_some, noF_fld, gd_true rfl, e3, Option.bind_some, noF_fld, gd_true rfl, e4, Option.bind_some]
  have q : cmpMV .Eq (.list [.str (sW [97, 97, 98, 97]), .str (sW [97, 97, 98]), .str (sW [97, 97, 98])]) (.list [.str (sW [97, 97, 98, 97]), .str (sW [97, 97, 98]), .str (sW [97, 97, 98])]) = some (.bool true) := by kernel_rfl
  rw [q]
  exact ⟨_, rfl⟩

theorem end_spec (tn : Nat) (il : List Int) (h : PySem.Str) (v s : MV) {x : Wd} {φ : Fld} (dn : Done x φ) : ∃ σ', lw (callN TT 9) tn 28 2 ⟨lwR (il.map MV.int) h (some (v, s)), φ⟩ = some (.ret (.bool true), σ') := by
  obtain ⟨c, lim, lb, b, k, p, rfl⟩ := dn
  cases il with
  | nil =>
    obtain ⟨u, e, hu⟩ := c_least 8 (fld (sW x) c lim lb b k p) 0 (by decide)
    obtain ⟨φ1, e1, dn1⟩ := c_word 3 c lim lb b k u (by have := hu.2.2; omega) (s := sW x) (.inr ⟨p, rfl⟩)
    have z : ((0 : Nat) : Int) = 0 := rfl
    rw [z] at e
    rw [List.map_nil, l_least0, e, Option.bind_some, e1, Option.bind_some]
    exact tail_spec tn _ h v s u _ hu rfl dn1
  | cons n r =>
    have m0 : 0 ≤ n.fmod 475931 := Int.fmod_nonneg_of_pos _ (by decide)
    have m1 : n.fmod 475931 < 475931 := Int.fmod_lt_of_pos _ (by decide)
    obtain ⟨u, e, hu⟩ := c_least 8 (fld (sW x) c lim lb b k p) (n.fmod 475931).toNat (by omega)
    obtain ⟨φ1, e1, dn1⟩ := c_word 3 c lim lb b k u (by have := hu.2.2; omega) (s := sW x) (.inr ⟨p, rfl⟩)
    rw [Int.toNat_of_nonneg m0] at e
    have g : (decide ((0 : Int) ≤ 0) && decide ((0 : Int) < ((MV.int n :: r.map MV.int).length : Int))) = true := by
      rw [Bool.and_eq_true, decide_eq_true_iff, decide_eq_true_iff, List.length_cons]; omega
    rw [List.map_cons, l_least1, gd_true g, e, Option.bind_some, e1, Option.bind_some]
    exact tail_spec tn _ h v s u _ hu rfl dn1

theorem law_runs (il : List Int) : LawRuns il := by
  obtain ⟨u, hu, e⟩ := c_lawWord 8 (fl6 (sW []) 0 0 0 0 0) il
  have ex : ∃ σ', exS TT (callN TT 9) lawDef.names depth ⟨[("script", .list (il.map .int)), ("one", .self)], fl6 (sW []) 0 0 0 0 0⟩ lawDef.body.tail = some (.ret (.bool true), σ') := by
    rw [← lw_exS]
    generalize turns = tn
    rw [l_here, e, Option.bind_some]
    have st : ∀ (l : List MV) (h : PySem.Str) (φ : Fld), lw (callN TT 9) tn 29 1 ⟨[("script", .list l), ("one", .self), ("here", .str h)], φ⟩ = lw (callN TT 9) tn 29 1 ⟨lwR l h none, φ⟩ := fun _ _ _ => rfl
    rw [st, l_loop]
    obtain ⟨w', x, v', φ', dn, e2⟩ := loop_spec tn (il.map MV.int) _ u (by omega) _ sixT none (sW []) 0 0 0 0 0 none rfl
    have fl : fl6 (sW []) 0 0 0 0 0 = flo (sW []) 0 0 0 0 0 none := rfl
    rw [fl, e2]
    exact end_spec tn il _ _ _ dn
  obtain ⟨σ', h⟩ := ex
  exact ⟨_, σ', c_init 7, h⟩
end Nor
end

theorem PySem.Challenge.cw_is0011_01_holds : PySem.Challenge.rw_is0011_01.Holds := by
  exact Nor.holds_of fun il _ => Nor.law_runs il
