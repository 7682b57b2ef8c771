import PyProof.Rows.All
import Wide.Tac
import Wide.BridgeG
import Wide.Loose
import Wide.FinOn
import Open.Line
import Open.Claim
import Open.FastRun
import Open.FastT9
import Open.FastLooks
import OpenK.Peek
import OpenK.KQuick
import OpenK.KLine
import OpenK.KDescr
import OpenK.KMore
import OpenK.KGet
import OpenK.KWalk
import OpenK.KMake
import OpenK.KOwn
import OpenK.KList
import OpenK.KFacts
import OpenK.KCall
import OpenK.Lit
import KE.KDictSum
import KE.KDictList
import KE.KxPercent
import PySem.Challenge.RW_iv0035_05
set_option Elab.async false
set_option maxRecDepth 100000
set_option backward.match.sparseCases false
set_option bootstrap.genMatcherCode false
set_option compiler.extract_closed false
section
open PySem
namespace Mine
theorem xo0_2  {A0 A1 : Prop} {p : Prop} (h : A0 ∧ A1) (k : A0 → A1 → p) : p := by obtain ⟨h0, h1⟩ := h; exact k h0 h1
theorem xo0_3  {A0 A1 A2 : Prop} {p : Prop} (h : A0 ∧ A1 ∧ A2) (k : A0 → A1 → A2 → p) : p := by obtain ⟨h0, h1, h2⟩ := h; exact k h0 h1 h2
theorem xo0_4  {A0 A1 A2 A3 : Prop} {p : Prop} (h : A0 ∧ A1 ∧ A2 ∧ A3) (k : A0 → A1 → A2 → A3 → p) : p := by obtain ⟨h0, h1, h2, h3⟩ := h; exact k h0 h1 h2 h3
theorem xo0_5  {A0 A1 A2 A3 A4 : Prop} {p : Prop} (h : A0 ∧ A1 ∧ A2 ∧ A3 ∧ A4) (k : A0 → A1 → A2 → A3 → A4 → p) : p := by obtain ⟨h0, h1, h2, h3, h4⟩ := h; exact k h0 h1 h2 h3 h4
theorem xo1_1 {α0 : Sort _} {A0 : α0 → Prop} {p : Prop} (h : ∃ x0, A0 x0) (k : ∀ x0, A0 x0 → p) : p := by obtain ⟨x0, h0⟩ := h; exact k x0 h0
theorem xo1_2 {α0 : Sort _} {A0 A1 : α0 → Prop} {p : Prop} (h : ∃ x0, A0 x0 ∧ A1 x0) (k : ∀ x0, A0 x0 → A1 x0 → p) : p := by obtain ⟨x0, h0, h1⟩ := h; exact k x0 h0 h1
theorem xo1_3 {α0 : Sort _} {A0 A1 A2 : α0 → Prop} {p : Prop} (h : ∃ x0, A0 x0 ∧ A1 x0 ∧ A2 x0) (k : ∀ x0, A0 x0 → A1 x0 → A2 x0 → p) : p := by obtain ⟨x0, h0, h1, h2⟩ := h; exact k x0 h0 h1 h2
theorem xo1_4 {α0 : Sort _} {A0 A1 A2 A3 : α0 → Prop} {p : Prop} (h : ∃ x0, A0 x0 ∧ A1 x0 ∧ A2 x0 ∧ A3 x0) (k : ∀ x0, A0 x0 → A1 x0 → A2 x0 → A3 x0 → p) : p := by obtain ⟨x0, h0, h1, h2, h3⟩ := h; exact k x0 h0 h1 h2 h3
theorem xo1_5 {α0 : Sort _} {A0 A1 A2 A3 A4 : α0 → Prop} {p : Prop} (h : ∃ x0, A0 x0 ∧ A1 x0 ∧ A2 x0 ∧ A3 x0 ∧ A4 x0) (k : ∀ x0, A0 x0 → A1 x0 → A2 x0 → A3 x0 → A4 x0 → p) : p := by obtain ⟨x0, h0, h1, h2, h3, h4⟩ := h; exact k x0 h0 h1 h2 h3 h4
theorem xo1_6 {α0 : Sort _} {A0 A1 A2 A3 A4 A5 : α0 → Prop} {p : Prop} (h : ∃ x0, A0 x0 ∧ A1 x0 ∧ A2 x0 ∧ A3 x0 ∧ A4 x0 ∧ A5 x0) (k : ∀ x0, A0 x0 → A1 x0 → A2 x0 → A3 x0 → A4 x0 → A5 x0 → p) : p := by obtain ⟨x0, h0, h1, h2, h3, h4, h5⟩ := h; exact k x0 h0 h1 h2 h3 h4 h5
theorem xo2_1 {α0 : Sort _} {α1 : Sort _} {A0 : α0 → α1 → Prop} {p : Prop} (h : ∃ x0 x1, A0 x0 x1) (k : ∀ x0 x1, A0 x0 x1 → p) : p := by obtain ⟨x0, x1, h0⟩ := h; exact k x0 x1 h0
theorem xo2_2 {α0 : Sort _} {α1 : Sort _} {A0 A1 : α0 → α1 → Prop} {p : Prop} (h : ∃ x0 x1, A0 x0 x1 ∧ A1 x0 x1) (k : ∀ x0 x1, A0 x0 x1 → A1 x0 x1 → p) : p := by obtain ⟨x0, x1, h0, h1⟩ := h; exact k x0 x1 h0 h1
theorem xo2_3 {α0 : Sort _} {α1 : Sort _} {A0 A1 A2 : α0 → α1 → Prop} {p : Prop} (h : ∃ x0 x1, A0 x0 x1 ∧ A1 x0 x1 ∧ A2 x0 x1) (k : ∀ x0 x1, A0 x0 x1 → A1 x0 x1 → A2 x0 x1 → p) : p := by obtain ⟨x0, x1, h0, h1, h2⟩ := h; exact k x0 x1 h0 h1 h2
theorem xo2_4 {α0 : Sort _} {α1 : Sort _} {A0 A1 A2 A3 : α0 → α1 → Prop} {p : Prop} (h : ∃ x0 x1, A0 x0 x1 ∧ A1 x0 x1 ∧ A2 x0 x1 ∧ A3 x0 x1) (k : ∀ x0 x1, A0 x0 x1 → A1 x0 x1 → A2 x0 x1 → A3 x0 x1 → p) : p := by obtain ⟨x0, x1, h0, h1, h2, h3⟩ := h; exact k x0 x1 h0 h1 h2 h3
theorem xo2_5 {α0 : Sort _} {α1 : Sort _} {A0 A1 A2 A3 A4 : α0 → α1 → Prop} {p : Prop} (h : ∃ x0 x1, A0 x0 x1 ∧ A1 x0 x1 ∧ A2 x0 x1 ∧ A3 x0 x1 ∧ A4 x0 x1) (k : ∀ x0 x1, A0 x0 x1 → A1 x0 x1 → A2 x0 x1 → A3 x0 x1 → A4 x0 x1 → p) : p := by obtain ⟨x0, x1, h0, h1, h2, h3, h4⟩ := h; exact k x0 x1 h0 h1 h2 h3 h4
theorem xo2_6 {α0 : Sort _} {α1 : Sort _} {A0 A1 A2 A3 A4 A5 : α0 → α1 → Prop} {p : Prop} (h : ∃ x0 x1, A0 x0 x1 ∧ A1 x0 x1 ∧ A2 x0 x1 ∧ A3 x0 x1 ∧ A4 x0 x1 ∧ A5 x0 x1) (k : ∀ x0 x1, A0 x0 x1 → A1 x0 x1 → A2 x0 x1 → A3 x0 x1 → A4 x0 x1 → A5 x0 x1 → p) : p := by obtain ⟨x0, x1, h0, h1, h2, h3, h4, h5⟩ := h; exact k x0 x1 h0 h1 h2 h3 h4 h5
theorem xo3_1 {α0 : Sort _} {α1 : Sort _} {α2 : Sort _} {A0 : α0 → α1 → α2 → Prop} {p : Prop} (h : ∃ x0 x1 x2, A0 x0 x1 x2) (k : ∀ x0 x1 x2, A0 x0 x1 x2 → p) : p := by obtain ⟨x0, x1, x2, h0⟩ := h; exact k x0 x1 x2 h0
theorem xo3_2 {α0 : Sort _} {α1 : Sort _} {α2 : Sort _} {A0 A1 : α0 → α1 → α2 → Prop} {p : Prop} (h : ∃ x0 x1 x2, A0 x0 x1 x2 ∧ A1 x0 x1 x2) (k : ∀ x0 x1 x2, A0 x0 x1 x2 → A1 x0 x1 x2 → p) : p := by obtain ⟨x0, x1, x2, h0, h1⟩ := h; exact k x0 x1 x2 h0 h1
theorem xo3_3 {α0 : Sort _} {α1 : Sort _} {α2 : Sort _} {A0 A1 A2 : α0 → α1 → α2 → Prop} {p : Prop} (h : ∃ x0 x1 x2, A0 x0 x1 x2 ∧ A1 x0 x1 x2 ∧ A2 x0 x1 x2) (k : ∀ x0 x1 x2, A0 x0 x1 x2 → A1 x0 x1 x2 → A2 x0 x1 x2 → p) : p := by obtain ⟨x0, x1, x2, h0, h1, h2⟩ := h; exact k x0 x1 x2 h0 h1 h2
theorem xo3_4 {α0 : Sort _} {α1 : Sort _} {α2 : Sort _} {A0 A1 A2 A3 : α0 → α1 → α2 → Prop} {p : Prop} (h : ∃ x0 x1 x2, A0 x0 x1 x2 ∧ A1 x0 x1 x2 ∧ A2 x0 x1 x2 ∧ A3 x0 x1 x2) (k : ∀ x0 x1 x2, A0 x0 x1 x2 → A1 x0 x1 x2 → A2 x0 x1 x2 → A3 x0 x1 x2 → p) : p := by obtain ⟨x0, x1, x2, h0, h1, h2, h3⟩ := h; exact k x0 x1 x2 h0 h1 h2 h3
theorem xo3_5 {α0 : Sort _} {α1 : Sort _} {α2 : Sort _} {A0 A1 A2 A3 A4 : α0 → α1 → α2 → Prop} {p : Prop} (h : ∃ x0 x1 x2, A0 x0 x1 x2 ∧ A1 x0 x1 x2 ∧ A2 x0 x1 x2 ∧ A3 x0 x1 x2 ∧ A4 x0 x1 x2) (k : ∀ x0 x1 x2, A0 x0 x1 x2 → A1 x0 x1 x2 → A2 x0 x1 x2 → A3 x0 x1 x2 → A4 x0 x1 x2 → p) : p := by obtain ⟨x0, x1, x2, h0, h1, h2, h3, h4⟩ := h; exact k x0 x1 x2 h0 h1 h2 h3 h4
set_option genSizeOf false
set_option genSizeOfSpec false
set_option genInjectivity false
inductive KC where
 | none | bool (b : Bool) | int (i : Int) | str (k : Nat)
inductive Op where
 | add | sub | mul | fdiv | mod
inductive Cm where
 | eq | ne | lt | le | gt | ge | is | isnot | isin | notin
mutual
inductive E where
 | lv (i : Nat) (p : Pos)
 | gv (i : Nat) (p : Pos)
 | cst (c : KC) (k : Nat) (p : Pos)
 | attr (e : E) (a : Nat) (p : Pos)
 | sub (e i : E) (p : Pos)
 | upto (e n : E) (p q : Pos)
 | bin (o : Op) (l r : E) (p : Pos)
 | neg (e : E) (p : Pos)
 | not (e : E) (p : Pos)
 | band (es : Es) (p : Pos)
 | bor (es : Es) (p : Pos)
 | cmp (l : E) (o : Cm) (r : E) (p : Pos)
 | cmp2 (l : E) (o : Cm) (m : E) (o' : Cm) (r : E) (p : Pos)
 | ife (t a b : E) (p : Pos)
 | call (f : E) (as : Es) (ks : Ks) (p : Pos)
 | mcall (o : E) (m : Nat) (q : Pos) (as : Es) (ks : Ks) (p : Pos)
 | lst (es : Es) (p : Pos)
 | tup (es : Es) (k : Nat) (p : Pos)
 | dct0 (p : Pos)
 | dct1 (k v : E) (p : Pos)
 | comp (elt : E) (x : Nat) (xp : Pos) (src : E) (ifs : Es) (sc : Nat) (p : Pos)
inductive Es where
 | nil
 | cons (e : E) (r : Es)
inductive Ks where
 | nil
 | cons (n : Nat) (e : E) (p : Pos) (r : Ks)
end
inductive T where
 | nm (i : Nat) (p : Pos)
 | attr (e : E) (a : Nat) (p : Pos)
 | sub (e i : E) (p : Pos)
 | tup (i : Nat) (p : Pos) (j : Nat) (q : Pos) (k : Nat) (r : Pos)
mutual
inductive S where
 | expr (e : E) (p : Pos)
 | asg (t : T) (e : E) (p : Pos)
 | aug (i : Nat) (np : Pos) (o : Op) (e : E) (p : Pos)
 | ife (t : E) (a b : Ss) (p : Pos)
 | whl (t : E) (b : Ss) (p : Pos)
 | for (t : T) (e : E) (b : Ss) (p : Pos)
 | ret (e : E) (p : Pos)
 | ret0 (p : Pos)
 | raise (c : Nat) (np : Pos) (e : E) (cp p : Pos)
 | try (b : Ss) (hs : Hs) (p : Pos)
 | fin (b f : Ss) (p : Pos)
 | assert (e : E) (p : Pos)
 | cont (p : Pos)
 | pass (p : Pos)
inductive Ss where
 | nil
 | cons (s : S) (r : Ss)
inductive Hs where
 | nil
 | cons (c : Nat) (np : Pos) (b : Ss) (p : Pos) (r : Hs)
end
section
variable (nm : Nat → Str) (sc : Nat → Scope)
noncomputable def KC.dec : KC → Const
 | .none => .none
 | .bool b => .bool b
 | .int i => .int i
 | .str k => .str (nm k)
noncomputable def Op.dec : Op → Operator
 | .add => .Add | .sub => .Sub | .mul => .Mult | .fdiv => .FloorDiv | .mod => .Mod
noncomputable def Cm.dec : Cm → CmpOp
 | .eq => .Eq | .ne => .NotEq | .lt => .Lt | .le => .LtE | .gt => .Gt | .ge => .GtE | .is => .Is | .isnot => .IsNot | .isin => .In | .notin => .NotIn
mutual
noncomputable def E.dec : E → PySem.Expr
 | .lv i p => .Name (nm i) p
 | .gv i p => .Name (nm i) p
 | .cst c k p => .Constant (c.dec nm) k p
 | .attr e a p => .Attribute e.dec (nm a) p
 | .sub e i p => .Subscript e.dec i.dec p
 | .upto e n p q => .Subscript e.dec (.Slice none (some n.dec) none q) p
 | .bin o l r p => .BinOp l.dec o.dec r.dec p
 | .neg e p => .UnaryOp .USub e.dec p
 | .not e p => .UnaryOp .Not e.dec p
 | .band es p => .BoolOp .And es.dec p
 | .bor es p => .BoolOp .Or es.dec p
 | .cmp l o r p => .Compare l.dec [o.dec] [r.dec] p
 | .cmp2 l o m o' r p => .Compare l.dec [o.dec, o'.dec] [m.dec, r.dec] p
 | .ife t a b p => .IfExp t.dec a.dec b.dec p
 | .call f as ks p => .Call f.dec as.dec ks.dec p
 | .mcall o m q as ks p => .Call (.Attribute o.dec (nm m) q) as.dec ks.dec p
 | .lst es p => .List es.dec p
 | .tup es k p => .Tuple es.dec k p
 | .dct0 p => .Dict [] [] p
 | .dct1 k v p => .Dict [some k.dec] [v.dec] p
 | .comp elt x xp src ifs s p => .ListComp elt.dec [⟨.Name (nm x) xp, src.dec, ifs.dec, 0⟩] (sc s) p
noncomputable def Es.dec : Es → List PySem.Expr
 | .nil => []
 | .cons e r => e.dec :: r.dec
noncomputable def Ks.dec : Ks → List Keyword
 | .nil => []
 | .cons n e p r => ⟨some (nm n), e.dec, p⟩ :: r.dec
end
noncomputable def T.dec : T → PySem.Expr
 | .nm i p => .Name (nm i) p
 | .attr e a p => .Attribute (e.dec nm sc) (nm a) p
 | .sub e i p => .Subscript (e.dec nm sc) (i.dec nm sc) p
 | .tup i p j q k r => .Tuple [.Name (nm i) p, .Name (nm j) q] k r
mutual
noncomputable def S.dec : S → Stmt
 | .expr e p => .Expr (e.dec nm sc) p
 | .asg t e p => .Assign [t.dec nm sc] (e.dec nm sc) p
 | .aug i np o e p => .AugAssign (.Name (nm i) np) o.dec (e.dec nm sc) p
 | .ife t a b p => .If (t.dec nm sc) a.dec b.dec p
 | .whl t b p => .While (t.dec nm sc) b.dec [] p
 | .for t e b p => .For (t.dec nm sc) (e.dec nm sc) b.dec [] p
 | .ret e p => .Return (some (e.dec nm sc)) p
 | .ret0 p => .Return none p
 | .raise c np e cp p => .Raise (some (.Call (.Name (nm c) np) [e.dec nm sc] [] cp)) none p
 | .try b hs p => .Try b.dec hs.dec [] [] p
 | .fin b f p => .Try b.dec [] [] f.dec p
 | .assert e p => .Assert (e.dec nm sc) none p
 | .cont p => .Continue p
 | .pass p => .Pass p
noncomputable def Ss.dec : Ss → List Stmt
 | .nil => []
 | .cons s r => s.dec :: r.dec
noncomputable def Hs.dec : Hs → List ExceptHandler
 | .nil => []
 | .cons c np b p r => .ExceptHandler (some (.Name (nm c) np)) none b.dec p :: r.dec
end
end
set_option genInjectivity true
inductive AV where
 | none | bool (b : Bool) | int (i : Int) | str (k : Nat) | msg | gl (k : Nat) | loc (l : Nat)
 deriving DecidableEq, Inhabited
inductive AO where
 | list (xs : List AV)
 | tup (xs : List AV)
 | dict (es : List (AV × AV))
 | inst (c : Nat) (as : List (Nat × AV))
 | rng (n : Int)
 | ro (xs : List AV)
 deriving Inhabited
structure St where
 loc : List (Nat × AV)
 heap : Nat → Option AO
 next : Nat
 hd : Nat
inductive R (α : Type) where
 | ok (a : α) (s : St)
 | ex (c : Nat) (cl : Bool) (s : St)
 | bad
noncomputable def R.reHd {α : Type} (n : Nat) : R α → R α
 | .ok a s => .ok a { s with hd := n }
 | .ex c cl s => .ex c cl { s with hd := n }
 | .bad => .bad
inductive Fl where
 | next | brk | cont | ret (v : AV)
 deriving DecidableEq, Inhabited
noncomputable def R.bnd {α β : Type} : R α → (α → St → R β) → R β
 | .ok a s, f => f a s
 | .ex c cl s, _ => .ex c cl s
 | .bad, _ => .bad
@[simp] theorem R.bnd_ok {α β : Type} (a : α) (s : St) (f : α → St → R β) : (R.ok a s).bnd f = f a s := rfl
@[simp] theorem R.bnd_ex {α β : Type} (c : Nat) (cl : Bool) (s : St) (f : α → St → R β) : (R.ex c cl s : R α).bnd f = .ex c cl s := rfl
@[simp] theorem R.bnd_bad {α β : Type} (f : α → St → R β) : (R.bad : R α).bnd f = .bad := rfl
noncomputable def get? (m : List (Nat × AV)) (i : Nat) : Option AV := match m with
 | [] => Option.none
 | (j, v) :: r => if i = j then some v else get? r i
noncomputable def put (m : List (Nat × AV)) (i : Nat) (v : AV) : List (Nat × AV) := match m with
 | [] => [(i, v)]
 | (j, w) :: r => if i = j then (j, v) :: r else (j, w) :: put r i v
noncomputable def dget? (m : List (AV × AV)) (k : AV) : Option AV := match m with
 | [] => Option.none
 | (j, v) :: r => if k = j then some v else dget? r k
noncomputable def dput (m : List (AV × AV)) (k v : AV) : List (AV × AV) := match m with
 | [] => [(k, v)]
 | (j, w) :: r => if k = j then (j, v) :: r else (j, w) :: dput r k v
noncomputable def ddel (m : List (AV × AV)) (k : AV) : List (AV × AV) := match m with
 | [] => []
 | (j, w) :: r => if k = j then r else (j, w) :: ddel r k
noncomputable def AV.plain : AV → Bool
 | .gl _ => false
 | _ => true
noncomputable def R.only {α : Type} : R α → R α
 | .ok a s => .ok a s
 | _ => .bad
namespace St
noncomputable def set (s : St) (l : Nat) (o : AO) : St := { s with heap := fun x => if x = l then some o else s.heap x }
noncomputable def new (s : St) (o : AO) : St := { s with heap := fun x => if x = s.next then some o else s.heap x, next := s.next + 1 }
noncomputable def put (s : St) (i : Nat) (v : AV) : St := { s with loc := Mine.put s.loc i v }
end St
inductive BI where
 | abs | len | isinstance | range | sorted
 deriving DecidableEq
inductive GK where
 | fn (f : Nat) | cls | bi (b : BI) | other
inductive MK where
 | none | data | fn (f : Nat) | prop (g s : Nat)
structure Fn where
 params : List Nat
 dflts : List (Nat × KC)
 body : Ss
set_option genInjectivity false in
structure Sig where
 gk : Nat → GK
 me : Nat → Nat → MK
 fn : Nat → Fn
 init : Nat
 shapes : List (Nat × Nat × List Nat)
 eqN : Nat
 ltN : Nat
 append : Nat
 pop : Nat
 remove : Nat
 indexError : Nat
 keyError : Nat
 lf : Nat
 pct : List Nat
 intN : Nat
 excs : List Nat
 rais : List Nat
noncomputable def KC.av : KC → AV
 | .none => .none | .bool b => .bool b | .int i => .int i | .str k => .str k
section
variable {α : Type}
noncomputable def noKw (ks : List (Nat × AV)) (r : R α) : R α := match ks with
 | [] => r
 | _ :: _ => .bad
noncomputable def arg1 (xs : List AV) (f : AV → R α) : R α := match xs with
 | [] => .bad
 | v :: r => (match r with
  | [] => f v
  | _ :: _ => .bad)
noncomputable def arg2 (xs : List AV) (f : AV → AV → R α) : R α := match xs with
 | [] => .bad
 | v :: r => arg1 r (f v)
noncomputable def asInt (v : AV) (f : Int → R α) : R α := match v with
 | .int x => f x
 | _ => .bad
noncomputable def asStr (v : AV) (f : Nat → R α) : R α := match v with
 | .str x => f x
 | _ => .bad
noncomputable def asLoc (v : AV) (f : Nat → R α) : R α := match v with
 | .loc l => f l
 | _ => .bad
noncomputable def asGl (v : AV) (f : Nat → R α) : R α := match v with
 | .gl l => f l
 | _ => .bad
noncomputable def asBool (v : AV) (f : Bool → R α) : R α := match v with
 | .bool b => f b
 | _ => .bad
noncomputable def atObj (s : St) (l : Nat) (f : AO → R α) : R α := match s.heap l with
 | some o => f o
 | none => .bad
noncomputable def onList (o : AO) (f : List AV → R α) : R α := match o with
 | .list xs => f xs
 | _ => .bad
noncomputable def onDict (o : AO) (f : List (AV × AV) → R α) : R α := match o with
 | .dict es => f es
 | _ => .bad
noncomputable def onInst (o : AO) (f : Nat → List (Nat × AV) → R α) : R α := match o with
 | .inst c as => f c as
 | _ => .bad
end
section
variable (g : Sig) (C : Nat → List AV → St → R AV)
noncomputable def raiseAs {α : Type} (c : Nat) (s : St) : R α := match s.hd with
 | 0 => .ex c true s
 | 1 => .ex c false s
 | _ => .bad
noncomputable def raise0 {α : Type} (c : Nat) (s : St) : R α := match s.hd with
 | 0 => .ex c true s
 | _ => .bad
noncomputable def truth (v : AV) (s : St) : R Bool := match v with
 | .none => .ok false s
 | .bool b => .ok b s
 | .int i => .ok (i ≠ 0) s
 | .loc l => atObj s l fun o => (match o with
  | .list xs => .ok (!xs.isEmpty) s
  | .dict es => .ok (!es.isEmpty) s
  | .ro xs => .ok (!xs.isEmpty) s
  | _ => .bad)
 | _ => .bad
noncomputable def bindR : List Nat → List (Nat × KC) → List AV → List (Nat × AV) → Option (List AV)
 | [], _, [], _ => some []
 | [], _, _ :: _, _ => Option.none
 | _ :: ps, ds, v :: vs, ks => (bindR ps ds vs ks).map (v :: ·)
 | p :: ps, ds, [], ks => match get? ks p with
  | some v => (bindR ps ds [] ks).map (v :: ·)
  | Option.none => match ds.lookup p with
   | some c => (bindR ps ds [] ks).map (c.av :: ·)
   | Option.none => Option.none
noncomputable def callFn (f : Nat) (xs : List AV) (ks : List (Nat × AV)) (s : St) : R AV :=
 if (f, xs.length, ks.map (·.1)) ∈ g.shapes then (match bindR (g.fn f).params (g.fn f).dflts xs ks with
 | some vs => C f vs s
 | Option.none => .bad) else .bad
noncomputable def getA (v : AV) (a : Nat) (s : St) : R AV := asLoc v fun l => atObj s l fun o => onInst o fun c as => (match g.me c a with
 | .prop f _ => (callFn g C f [.loc l] [] s).only.bnd fun x s => if x.plain then .ok x s else .bad
 | .data => (match get? as a with
  | some x => if x.plain then .ok x s else .bad
  | Option.none => .bad)
 | _ => .bad)
noncomputable def setA (v : AV) (a : Nat) (x : AV) (s : St) : R Unit := asLoc v fun l => atObj s l fun o => onInst o fun c as => (match g.me c a with
 | .prop _ f => (callFn g C f [.loc l, x] [] s).bnd fun _ s => .ok () s
 | .data => if as.length ≤ 20 then .ok () (s.set l (.inst c (put as a x))) else .bad
 | _ => .bad)
noncomputable def itemR (xs : List AV) (k : Int) (s : St) : R AV := if 0 ≤ k then (match xs[k.toNat]? with | some x => .ok x s | Option.none => .bad) else .bad
noncomputable def getI (v i : AV) (s : St) : R AV := asLoc v fun l => asInt i fun k => atObj s l fun o => (match o with
 | .list xs => itemR xs k s
 | .tup xs => itemR xs k s
 | .dict es => (match dget? es (.int k) with | some x => .ok x s | Option.none => raise0 g.keyError s)
 | .ro xs => itemR xs k s
 | _ => .bad)
noncomputable def setI (v i x : AV) (s : St) : R Unit := asLoc v fun l => asInt i fun k => atObj s l fun o => (match o with
 | .list xs => if 0 ≤ k ∧ k.toNat < xs.length then .ok () (s.set l (.list (xs.set k.toNat x))) else .bad
 | .dict es => if es.length ≤ 1000 then .ok () (s.set l (.dict (dput es (.int k) x))) else .bad
 | _ => .bad)
noncomputable def alloc (o : AO) (s : St) : R AV := .ok (.loc s.next) (s.new o)
noncomputable def binoI (o : Op) (x y : Int) (s : St) : R AV := match o with
 | .add => .ok (.int (x + y)) s
 | .sub => .ok (.int (x - y)) s
 | .mul => if x.natAbs < 2 ^ 60 then .ok (.int (x * y)) s else .bad
 | .fdiv => if y ≠ 0 ∧ y.natAbs < 1073741824 then .ok (.int (Int.fdiv x y)) s else .bad
 | .mod => if y ≠ 0 then .ok (.int (Int.fmod x y)) s else .bad
noncomputable def bino (g : Sig) (o : Op) (a b : AV) (s : St) : R AV := match a with
 | .int x => asInt b fun y => binoI o x y s
 | .str k => asInt b fun y => (match o with
  | .mod => if k ∈ g.pct ∧ 0 ≤ y ∧ y < 1000000000 then .ok .msg s else .bad
  | _ => .bad)
 | .loc l => atObj s l fun x => onList x fun xs => (match o with
  | .add => asLoc b fun k => atObj s k fun y => onList y fun ys => if xs.length + ys.length ≤ 1000 then alloc (.list (xs ++ ys)) s else .bad
  | .mul => asInt b fun n => if xs.length = 1 ∧ 0 ≤ n ∧ n ≤ 100 then alloc (.list ((List.replicate n.toNat xs).flatten)) s else .bad
  | _ => .bad)
 | _ => .bad
noncomputable def cmpI (m : Nat) (l k : Nat) (s : St) : R Bool := atObj s l fun x => onInst x fun c _ => atObj s k fun y => onInst y fun c' _ => if c = c' then (match g.me c m with
 | .fn f => (callFn g C f [.loc l, .loc k] [] s).only.bnd fun v s => asBool v fun b => .ok b s
 | _ => .bad) else .bad
noncomputable def eqP (a b : AV) : Option Bool := match a with
 | .none => (match b with | .none => some true | .int _ => some false | .str _ => some false | _ => Option.none)
 | .int x => (match b with | .none => some false | .int y => some (decide (x = y)) | .str _ => some false | _ => Option.none)
 | .str x => (match b with | .none => some false | .int _ => some false | .str y => some (decide (x = y)) | _ => Option.none)
 | _ => Option.none
noncomputable def eqR (a b : AV) (f : Bool → Bool) (s : St) : R Bool := match eqP a b with
 | some r => .ok (f r) s
 | Option.none => .bad
noncomputable def eqv (a b : AV) (s : St) : R Bool := match a with
 | .loc l => asLoc b fun k => cmpI g C g.eqN l k s
 | _ => eqR a b id s
noncomputable def isR (a b : AV) (f : Bool → Bool) (s : St) : R Bool := match b with
 | .none => (match a with | .none => .ok (f true) s | .int _ => .ok (f false) s | .str _ => .ok (f false) s | _ => .bad)
 | _ => .bad
noncomputable def inR (a b : AV) (f : Bool → Bool) (s : St) : R Bool := asInt a fun _ => asLoc b fun l => atObj s l fun o => onDict o fun es => .ok (f (dget? es a).isSome) s
noncomputable def intsR (a b : AV) (s : St) (f : Int → Int → Bool) : R Bool := asInt a fun x => asInt b fun y => .ok (f x y) s
noncomputable def cmpv (o : Cm) (a b : AV) (s : St) : R Bool := match o with
 | .eq => eqv g C a b s
 | .ne => eqR a b not s
 | .lt => (match a with
  | .loc l => asLoc b fun k => cmpI g C g.ltN l k s
  | _ => intsR a b s fun x y => x < y)
 | .le => intsR a b s fun x y => x ≤ y
 | .gt => intsR a b s fun x y => x > y
 | .ge => intsR a b s fun x y => x ≥ y
 | .is => isR a b id s
 | .isnot => isR a b not s
 | .isin => inR a b id s
 | .notin => inR a b not s
noncomputable def takeL (xs : List AV) (k : Int) (s : St) : R AV := if 0 ≤ k ∧ xs.length ≤ 1000 then alloc (.list (xs.take k.toNat)) s else .bad
noncomputable def takeR (v w : AV) (s : St) : R AV := asLoc v fun l => asInt w fun k => atObj s l fun o => (match o with
 | .list xs => takeL xs k s
 | .ro xs => takeL xs k s
 | _ => .bad)
noncomputable def insInt (x : Int) : List Int → List Int
 | [] => [x]
 | y :: r => if x ≤ y then x :: y :: r else y :: insInt x r
noncomputable def sortInt (xs : List Int) : List Int := xs.foldr insInt []
noncomputable def ints? : List AV → Option (List Int)
 | [] => some []
 | .int i :: r => (ints? r).map (i :: ·)
 | _ => Option.none
noncomputable def isiR (g : Sig) (k : Nat) (v : AV) (s : St) : R AV := match v with
 | .int _ => if k = g.intN then .ok (.bool true) s else .bad
 | .str _ => if k = g.intN then .ok (.bool false) s else .bad
 | .loc l => atObj s l fun o => onInst o fun c _ => if c = k then (match g.gk k with | .cls => .ok (.bool true) s | _ => .bad) else .bad
 | _ => .bad
noncomputable def callBI (b : BI) (xs : List AV) (s : St) : R AV := match b with
 | .abs => arg1 xs fun v => asInt v fun x => .ok (.int (if x < 0 then -x else x)) s
 | .len => arg1 xs fun v => asLoc v fun l => atObj s l fun o => (match o with
  | .list xs => .ok (.int xs.length) s
  | .dict es => .ok (.int es.length) s
  | _ => .bad)
 | .isinstance => arg2 xs fun v u => asGl u fun k => isiR g k v s
 | .range => arg1 xs fun v => asInt v fun n => if 0 ≤ n ∧ n ≤ 1000 then alloc (.rng n) s else .bad
 | .sorted => .bad
noncomputable def callV (v : AV) (xs : List AV) (ks : List (Nat × AV)) (s : St) : R AV := match v with
 | .gl k => (match g.gk k with
  | .fn f => callFn g C f xs ks s
  | .cls => (match g.me k g.init with
   | .fn f => (callFn g C f (.loc s.next :: xs) ks (s.new (.inst k []))).bnd fun r s' => if r = .none then .ok (.loc s.next) s' else .bad
   | _ => .bad)
  | .bi b => if ks.isEmpty then callBI g b xs s else .bad
  | .other => .bad)
 | _ => .bad
noncomputable def eqIt (y x : AV) (s : St) : R Bool := match y with
 | .int a => asInt x fun b => .ok (decide (a = b)) s
 | .loc a => asLoc x fun b => if a = b then .ok true s else eqv g C (.loc a) (.loc b) s
 | _ => .bad
noncomputable def cutAt (l n : Nat) (s : St) : R AV := atObj s l fun o => onList o fun zs => .ok .none (s.set l (.list (zs.eraseIdx n)))
noncomputable def removeAt (l : Nat) (x : AV) : Nat → Nat → St → R AV
 | 0, _, _ => .bad
 | k + 1, n, s => atObj s l fun o => onList o fun zs => (match zs[n]? with
  | some y => (eqIt g C y x s).bnd fun t s => if t then cutAt l n s else removeAt l x k (n + 1) s
  | none => .bad)
noncomputable def canCall (g : Sig) (v : AV) : Bool := match v with
 | .gl k => (match g.gk k with | .other => false | _ => true)
 | _ => false
inductive Mt where
 | fn (f : Nat) | append | lpop | remove | dpop
noncomputable def methodOf (g : Sig) (v : AV) (m : Nat) (s : St) : Option Mt := match v with
 | .loc l => (match s.heap l with
  | some (.inst c as) => (match g.me c m, get? as m with
   | .fn f, Option.none => some (.fn f)
   | _, _ => Option.none)
  | some (.list _) => if m = g.append then some .append else if m = g.pop then some .lpop else if m = g.remove then some .remove else Option.none
  | some (.dict _) => if m = g.pop then some .dpop else Option.none
  | _ => Option.none)
 | _ => Option.none
noncomputable def callMt (m : Mt) (v : AV) (xs : List AV) (ks : List (Nat × AV)) (s : St) : R AV := match m with
 | .fn f => callFn g C f (v :: xs) ks s
 | .append => asLoc v fun l => noKw ks (arg1 xs fun x => atObj s l fun o => onList o fun ys => if ys.length ≤ 1000 then .ok .none (s.set l (.list (ys ++ [x]))) else .bad)
 | .lpop => asLoc v fun l => noKw ks (arg1 xs fun x => asInt x fun i => if i = 0 then atObj s l fun o => onList o fun ys => (match ys with
   | [] => raise0 g.indexError s
   | y :: r => .ok y (s.set l (.list r))) else .bad)
 | .remove => asLoc v fun l => noKw ks (arg1 xs fun x => atObj s l fun o => onList o fun ys => removeAt g C l x (ys.length + 1) 0 s)
 | .dpop => asLoc v fun l => noKw ks (arg1 xs fun x => asInt x fun i => atObj s l fun o => onDict o fun es => (match dget? es (.int i) with
   | some x => .ok x (s.set l (.dict (ddel es (.int i))))
   | Option.none => raise0 g.keyError s))
inductive It where
 | list (l : Nat) | tup (l : Nat) | rng (n : Int)
noncomputable def iterOf (v : AV) (s : St) : Option It := match v with
 | .loc l => (match s.heap l with
  | some (.list _) => some (.list l)
  | some (.tup _) => some (.tup l)
  | some (.rng n) => some (.rng n)
  | _ => Option.none)
 | _ => Option.none
noncomputable def itemAt (v : It) (i : Nat) (s : St) : Option (Option AV) := match v with
 | .list l => (match s.heap l with
  | some (.list xs) => some xs[i]?
  | _ => Option.none)
 | .tup l => (match s.heap l with
  | some (.tup xs) => some xs[i]?
  | _ => Option.none)
 | .rng n => some (if (i : Int) < n then some (.int i) else Option.none)
noncomputable def finR (h : Nat) (r : R Fl) (fin : St → R Fl) : R Fl := match r with
 | .ok x s => (match fin s with
  | .ok .next s => .ok x s
  | _ => .bad)
 | .ex c cl s' => (match fin { s' with hd := if cl then 1 else 2 } with
  | .ok .next s' => .ex c cl { s' with hd := h }
  | _ => .bad)
 | .bad => .bad
noncomputable def whileN (test : St → R Bool) (body : St → R Fl) : Nat → St → R Fl
 | 0, _ => .bad
 | k + 1, s => (test s).bnd fun b s => if b then (body s).bnd fun f s => (match f with
   | .next => whileN test body k s
   | .cont => whileN test body k s
   | .brk => .ok .next s
   | .ret v => .ok (.ret v) s) else .ok .next s
noncomputable def forN (v : It) (asg : AV → St → R Unit) (body : St → R Fl) : Nat → Nat → St → R Fl
 | 0, _, _ => .bad
 | k + 1, i, s => match itemAt v i s with
  | Option.none => .bad
  | some Option.none => if s.hd ≤ 1 then .ok .next s else .bad
  | some (some x) => (asg x s).bnd fun _ s => (body s).bnd fun f s => (match f with
   | .next => forN v asg body k (i + 1) s
   | .cont => forN v asg body k (i + 1) s
   | .brk => .ok .next s
   | .ret v => .ok (.ret v) s)
noncomputable def compN (v : It) (x : Nat) (acc : Nat) (ifs : St → R Bool) (elt : St → R AV) : Nat → Nat → St → R Unit
 | 0, _, _ => .bad
 | k + 1, i, s => match itemAt v i s with
  | Option.none => .bad
  | some Option.none => if s.hd ≤ 1 then .ok () s else .bad
  | some (some y) => (ifs (s.put x y)).bnd fun b s => if b then (elt s).bnd fun z s => (match s.heap acc with
    | some (.list zs) => if zs.length ≤ 1000 then compN v x acc ifs elt k (i + 1) (s.set acc (.list (zs ++ [z]))) else .bad
    | _ => .bad) else compN v x acc ifs elt k (i + 1) s
mutual
noncomputable def evalE : E → St → R AV
 | .lv i _, s => match get? s.loc i with
  | some v => .ok v s
  | Option.none => .bad
 | .gv i _, s => .ok (.gl i) s
 | .cst c _ _, s => .ok c.av s
 | .attr e a _, s => (evalE e s).bnd fun v s => getA g C v a s
 | .sub e i _, s => (evalE e s).bnd fun v s => (evalE i s).bnd fun w s => getI g v w s
 | .upto e n _ _, s => (evalE e s).bnd fun v s => (evalE n s).bnd fun w s => takeR v w s
 | .bin o l r _, s => (evalE l s).bnd fun a s => (evalE r s).bnd fun b s => bino g o a b s
 | .neg e _, s => (evalE e s).bnd fun a s => asInt a fun x => .ok (.int (-x)) s
 | .not e _, s => (evalE e s).bnd fun a s => (truth a s).bnd fun b s => .ok (.bool (!b)) s
 | .band es _, s => evalB true es s
 | .bor es _, s => evalB false es s
 | .cmp l o r _, s => (evalE l s).bnd fun a s => (evalE r s).bnd fun b s => (cmpv g C o a b s).bnd fun x s => .ok (.bool x) s
 | .cmp2 l o m o' r _, s => (evalE l s).bnd fun a s => (evalE m s).bnd fun b s => (cmpv g C o a b s).bnd fun x s =>
   if x then (evalE r s).bnd fun c s => (cmpv g C o' b c s).bnd fun x s => .ok (.bool x) s else .ok (.bool false) s
 | .ife t a b _, s => ((evalE t s).bnd fun v s => truth v s).bnd fun x s => if x then evalE a s else evalE b s
 | .call f as ks _, s => (evalE f s).bnd fun v s => if canCall g v then (evalEs as s).bnd fun xs s => (evalKs ks s).bnd fun ys s => callV g C v xs ys s else .bad
 | .mcall o m _ as ks _, s => (evalE o s).bnd fun v s => (match methodOf g v m s with
  | some mt => (evalEs as s).bnd fun xs s => (evalKs ks s).bnd fun ys s => callMt g C mt v xs ys s
  | Option.none => .bad)
 | .lst es _, s => (evalEs es s).bnd fun xs s => if xs.length ≤ 1000 then alloc (.list xs) s else .bad
 | .tup es _ _, s => (evalEs es s).bnd fun xs s => if xs.length ≤ 1000 then alloc (.tup xs) s else .bad
 | .dct0 _, s => alloc (.dict []) s
 | .dct1 k v _, s => (evalE k s).bnd fun a s => (evalE v s).bnd fun b s => asInt a fun i => alloc (.dict [(.int i, b)]) s
 | .comp elt x _ src ifs _ _, s => (evalE src s).bnd fun v s => (match iterOf v s with
  | some it => (compN it x s.next (fun s => evalF ifs s) (fun s => evalE elt s) g.lf 0 (s.new (.list []))).bnd fun _ s' => .ok (.loc s.next) { s' with loc := s.loc }
  | Option.none => .bad)
noncomputable def evalEs : Es → St → R (List AV)
 | .nil, s => .ok [] s
 | .cons e r, s => (evalE e s).bnd fun v s => (evalEs r s).bnd fun vs s => .ok (v :: vs) s
noncomputable def evalKs : Ks → St → R (List (Nat × AV))
 | .nil, s => .ok [] s
 | .cons n e _ r, s => (evalE e s).bnd fun v s => (evalKs r s).bnd fun vs s => .ok ((n, v) :: vs) s
noncomputable def evalF : Es → St → R Bool
 | .nil, s => .ok true s
 | .cons e r, s => ((evalE e s).bnd fun v s => truth v s).bnd fun b s => if b then evalF r s else .ok false s
noncomputable def evalB : Bool → Es → St → R AV
 | _, .nil, _ => .bad
 | _, .cons e .nil, s => evalE e s
 | op, .cons e r, s => (evalE e s).bnd fun v s => (truth v s).bnd fun b s => if b = op then evalB op r s else .ok v s
end
noncomputable def augR (o : Op) (i : Nat) (x y : Int) (s : St) : R Fl := match o with
 | .add => .ok .next (s.put i (.int (x + y)))
 | .sub => .ok .next (s.put i (.int (x - y)))
 | _ => .bad
noncomputable def tupR (i j : Nat) (v : AV) (s : St) : R Unit := asLoc v fun l => atObj s l fun o => (match o with
 | .tup xs => arg2 xs fun x y => if s.hd ≤ 1 then .ok () ((s.put i x).put j y) else .bad
 | _ => .bad)
noncomputable def evalT (e : E) (s : St) : R Bool := (evalE g C e s).bnd fun v s => truth v s
noncomputable def asgT : T → AV → St → R Unit
 | .nm i _, v, s => .ok () (s.put i v)
 | .attr e a _, v, s => (evalE g C e s).bnd fun o s => setA g C o a v s
 | .sub e i _, v, s => (evalE g C e s).bnd fun o s => (evalE g C i s).bnd fun w s => setI o w v s
 | .tup i _ j _ _ _, v, s => tupR i j v s
mutual
noncomputable def exec : S → St → R Fl
 | .expr e _, s => (evalE g C e s).bnd fun v s => (match v with | .loc _ | .gl _ => .bad | _ => .ok .next s)
 | .asg t e _, s => (evalE g C e s).bnd fun v s => (asgT g C t v s).bnd fun _ s => .ok .next s
 | .aug i _ o e _, s => match get? s.loc i with
  | some a => (evalE g C e s).bnd fun b s => asInt a fun x => asInt b fun y => augR o i x y s
  | Option.none => .bad
 | .ife t a b _, s => (evalT g C t s).bnd fun x s => if x then execs a s else execs b s
 | .whl t b _, s => whileN (fun s => evalT g C t s) (fun s => execs b s) g.lf s
 | .for t e b _, s => (evalE g C e s).bnd fun v s => (match iterOf v s with
  | some it => forN it (fun x s => asgT g C t x s) (fun s => execs b s) g.lf 0 s
  | Option.none => .bad)
 | .ret e _, s => (evalE g C e s).bnd fun v s => .ok (.ret v) s
 | .ret0 _, s => .ok (.ret .none) s
 | .raise c _ e _ _, s => (evalE g C e s).bnd fun _ s => raiseAs c s
 | .try b hs _, s => (match execs b s with
  | .ok f s => .ok f s
  | .ex c cl s' => handle s.hd hs c cl s'
  | .bad => .bad)
 | .fin b f _, s => finR s.hd (execs b s) (fun s => execs f s)
 | .assert e _, s => (evalT g C e s).bnd fun b s => if b then .ok .next s else .bad
 | .cont _, s => .ok .cont s
 | .pass _, s => .ok .next s
noncomputable def execs : Ss → St → R Fl
 | .nil, s => .ok .next s
 | .cons a r, s => (exec a s).bnd fun f s => (match f with
  | .next => execs r s
  | f => .ok f s)
noncomputable def handle (h : Nat) : Hs → Nat → Bool → St → R Fl
 | .nil, c, cl, s => .ex c cl s
 | .cons d _ b _ r, c, cl, s => if c ∈ g.excs ∧ d ∈ g.excs then (if c = d then (execs b { s with hd := if cl then 1 else 2 }).reHd h else handle h r c cl s) else .bad
end
end
noncomputable def back (loc : List (Nat × AV)) : R Fl → R AV
 | .ok (.ret v) s => .ok v { s with loc := loc }
 | .ok .next s => .ok .none { s with loc := loc }
 | .ok _ _ => .bad
 | .ex c cl s => .ex c cl { s with loc := loc }
 | .bad => .bad
noncomputable def callF (g : Sig) : Nat → Nat → List AV → St → R AV
 | 0, _, _, _ => .bad
 | n + 1, f, vs, s => if vs.length = (g.fn f).params.length then back s.loc (execs g (callF g n) (g.fn f).body { s with loc := (g.fn f).params.zip vs }) else .bad
noncomputable def nmOf (l : List Str) (i : Nat) : Str := match l[i]? with | some x => x | none => ⟨#[1114112 + i]⟩
end Mine
end
section
open PySem PySem.W PyProof.Rows PySem.Calls
namespace Mine
noncomputable def zs (l : List Nat) : Str := ⟨l.toArray⟩
noncomputable def names : List Str := [zs [111,110,101], zs [111,116,104,101,114], zs [95,97,104,101,97,100], zs [113,117,101,117,101], zs [105,116,101,109], zs [104,101,97,112,112,117,115,104], zs [97,112,112,101,110,100], zs [112,108,97,99,101], zs [108,101,110], zs [104,101,97,112,112,111,112], zs [112,111,112], zs [80,114,105,111,114,105,116,121,69,114,114,111,114], zs [68,101,97,100,108,111,99,107,69,114,114,111,114], zs [80,114,105,111,114,105,116,121,76,111,111,112], zs [68,117,112,108,105,99,97,116,101,83,116,114,101,97,109,69,114,114,111,114], zs [77,105,115,115,105,110,103,83,116,114,101,97,109,69,114,114,111,114], zs [84,111,111,77,97,110,121,83,116,114,101,97,109,115,69,114,114,111,114], zs [66,97,100,87,101,105,103,104,116,69,114,114,111,114], zs [80,115,101,117,100,111,83,116,114,101,97,109,69,114,114,111,114], zs [83,116,114,101,97,109], zs [115,101,108,102], zs [115,116,114,101,97,109,95,105,100], zs [119,101,105,103,104,116], zs [95,95,105,110,105,116,95,95], zs [99,104,105,108,100,114,101,110], zs [112,97,114,101,110,116], zs [99,104,105,108,100,95,113,117,101,117,101], zs [97,99,116,105,118,101], zs [108,97,115,116,95,119,101,105,103,104,116], zs [95,100,101,102,105,99,105,116], zs [95,119,101,105,103,104,116], zs [118,97,108,117,101], zs [105,115,105,110,115,116,97,110,99,101], zs [105,110,116], zs [83,116,114,101,97,109,32,119,101,105,103,104,116,32,115,104,111,117,108,100,32,98,101,32,97,110,32,105,110,116,101,103,101,114], zs [83,116,114,101,97,109,32,119,101,105,103,104,116,32,109,117,115,116,32,98,101,32,98,101,116,119,101,101,110,32,49,32,97,110,100,32,50,53,54,32,40,105,110,99,108,117,115,105,118,101,41], zs [99,104,105,108,100], zs [97,100,100,95,99,104,105,108,100], zs [97,100,100,95,99,104,105,108,100,95,101,120,99,108,117,115,105,118,101], zs [111,108,100,95,99,104,105,108,100,114,101,110], zs [111,108,100,95,99,104,105,108,100], zs [115,116,114,105,112,95,99,104,105,108,100,114,101,110], zs [114,101,109,111,118,101,95,99,104,105,108,100], zs [114,101,109,111,118,101], zs [110,101,119,95,113,117,101,117,101], zs [108,101,118,101,108], zs [115,116,114,101,97,109], zs [110,101,119,95,99,104,105,108,100], zs [115,99,104,101,100,117,108,101], zs [110,101,120,116,95,115,116,114,101,97,109], zs [112,111,112,112,101,100,95,115,116,114,101,97,109,115], zs [118,97,108], zs [73,110,100,101,120,69,114,114,111,114], zs [95,95,114,101,112,114,95,95], zs [83,116,114,101,97,109,60,105,100,61,37,100,44,32,119,101,105,103,104,116,61,37,100,62], zs [95,95,101,113,95,95], zs [95,95,110,101,95,95], zs [95,95,108,116,95,95], zs [78,111,116,73,109,112,108,101,109,101,110,116,101,100], zs [95,95,108,101,95,95], zs [95,95,103,116,95,95], zs [95,95,103,101,95,95], zs [110,101,119,95,112,97,114,101,110,116], zs [99,117,114,114,101,110,116], zs [95,115,116,114,101,97,109,95,99,121,99,108,101], zs [95], zs [114,97,110,103,101], zs [83,116,114,101,97,109,32,37,100,32,105,115,32,105,110,32,97,32,112,114,105,111,114,105,116,121,32,108,111,111,112,46], zs [80,114,105,111,114,105,116,121,84,114,101,101], zs [109,97,120,105,109,117,109,95,115,116,114,101,97,109,115], zs [95,114,111,111,116,95,115,116,114,101,97,109], zs [95,115,116,114,101,97,109,115], zs [84,121,112,101,69,114,114,111,114], zs [109,97,120,105,109,117,109,95,115,116,114,101,97,109,115,32,109,117,115,116,32,98,101,32,97,110,32,105,110,116,46], zs [86,97,108,117,101,69,114,114,111,114], zs [109,97,120,105,109,117,109,95,115,116,114,101,97,109,115,32,109,117,115,116,32,98,101,32,97,32,112,111,115,105,116,105,118,101,32,105,110,116,101,103,101,114,46], zs [95,109,97,120,105,109,117,109,95,115,116,114,101,97,109,115], zs [112,97,114,101,110,116,95,115,116,114,101,97,109,95,105,100], zs [95,103,101,116,95,111,114,95,105,110,115,101,114,116,95,112,97,114,101,110,116], zs [75,101,121,69,114,114,111,114], zs [105,110,115,101,114,116,95,115,116,114,101,97,109], zs [98,108,111,99,107], zs [112,97,114,101,110,116,95,115,116,114,101,97,109], zs [105,110,115,101,114,116,101,100,95,115,116,114,101,97,109], zs [95,101,120,99,108,117,115,105,118,101,95,105,110,115,101,114,116], zs [100,101,112,101,110,100,115,95,111,110], zs [101,120,99,108,117,115,105,118,101], zs [83,116,114,101,97,109,32,37,100,32,97,108,114,101,97,100,121,32,105,110,32,116,114,101,101], zs [82,101,102,117,115,105,110,103,32,116,111,32,105,110,115,101,114,116,32,37,100,32,115,116,114,101,97,109,115,32,105,110,116,111,32,112,114,105,111,114,105,116,121,32,116,114,101,101,32,97,116,32,111,110,99,101], zs [83,116,114,101,97,109,32,37,100,32,109,117,115,116,32,110,111,116,32,100,101,112,101,110,100,32,111,110,32,105,116,115,101,108,102,46], zs [114,101,112,114,105,111,114,105,116,105,122,101], zs [67,97,110,110,111,116,32,114,101,112,114,105,111,114,105,116,105,122,101,32,115,116,114,101,97,109,32,48], zs [99,117,114,114,101,110,116,95,115,116,114,101,97,109], zs [83,116,114,101,97,109,32,37,100,32,110,111,116,32,105,110,32,116,114,101,101], zs [83,116,114,101,97,109,32,37,100,32,109,117,115,116,32,110,111,116,32,100,101,112,101,110,100,32,111,110,32,105,116,115,101,108,102], zs [99,121,99,108,101], zs [114,101,109,111,118,101,95,115,116,114,101,97,109], zs [67,97,110,110,111,116,32,114,101,109,111,118,101,32,115,116,114,101,97,109,32,48], zs [67,97,110,110,111,116,32,98,108,111,99,107,32,115,116,114,101,97,109,32,48], zs [117,110,98,108,111,99,107], zs [67,97,110,110,111,116,32,117,110,98,108,111,99,107,32,115,116,114,101,97,109,32,48], zs [95,95,105,116,101,114,95,95], zs [95,95,110,101,120,116,95,95], zs [78,111,32,117,110,98,108,111,99,107,101,100,32,115,116,114,101,97,109,115,32,116,111,32,115,99,104,101,100,117,108,101,46], zs [110,101,120,116], zs [116,114,101,101], zs [107,105,110,100], zs [120], zs [112], zs [97,108,111,110,101], zs [95,108,97,119,95,100,111], zs [100,117,112,108,105,99,97,116,101], zs [109,105,115,115,105,110,103], zs [115,99,114,105,112,116], zs [108,97,119], zs [102,105,114,115,116], zs [97,98,115], zs [119,104,111,108,101], zs [116,111,112], zs [111,119,110], zs [104,101,114,101], zs [103], zs [110,117,109,98,101,114], zs [110], zs [116,117,114,110], zs [116,111,108,100], zs [119,104,105,99,104], zs [98,101,115,105,100,101], zs [115,111,114,116,101,100]]
noncomputable def nm (i : Nat) : Str := nmOf names i
noncomputable def scp (k : ScopeKind) (l : List (Str × NameKind)) : Scope := { kind := k, names := l, isGenerator := false, isCoroutine := false }
noncomputable def agl (a : List Arg) (d : List Expr) : Arguments := ⟨[], a, none, [], [], none, d⟩
noncomputable def sct : List Scope := []
noncomputable def scs (i : Nat) : Scope := sct.getD i default
noncomputable def ag0 : List Arg := [⟨(nm 0), none, ⟨2,11,2,14⟩⟩, ⟨(nm 1), none, ⟨2,16,2,21⟩⟩]
noncomputable def dx0 : List Expr := []
noncomputable def b0 : Ss := (.cons (.ife (.cmp (.sub (.lv 0 ⟨3,7,3,10⟩) (.cst (.int 0) 0 ⟨3,11,3,12⟩) ⟨3,7,3,13⟩) .ne (.sub (.lv 1 ⟨3,17,3,22⟩) (.cst (.int 0) 0 ⟨3,23,3,24⟩) ⟨3,17,3,25⟩) ⟨3,7,3,25⟩) (.cons (.ret (.cmp (.sub (.lv 0 ⟨4,15,4,18⟩) (.cst (.int 0) 0 ⟨4,19,4,20⟩) ⟨4,15,4,21⟩) .lt (.sub (.lv 1 ⟨4,24,4,29⟩) (.cst (.int 0) 0 ⟨4,30,4,31⟩) ⟨4,24,4,32⟩) ⟨4,15,4,32⟩) ⟨4,8,4,32⟩) .nil) .nil ⟨3,4,4,32⟩) (.cons (.ret (.cmp (.sub (.lv 0 ⟨5,11,5,14⟩) (.cst (.int 1) 0 ⟨5,15,5,16⟩) ⟨5,11,5,17⟩) .lt (.sub (.lv 1 ⟨5,20,5,25⟩) (.cst (.int 1) 0 ⟨5,26,5,27⟩) ⟨5,20,5,28⟩) ⟨5,11,5,28⟩) ⟨5,4,5,28⟩) .nil))
noncomputable def kd0 : List (Nat × NameKind) := [(0, .local), (1, .local)]
noncomputable def sc0 : Scope := scp .function (kd0.map fun x => (nm x.1, x.2))
noncomputable def ag1 : List Arg := [⟨(nm 3), none, ⟨6,13,6,18⟩⟩, ⟨(nm 4), none, ⟨6,20,6,24⟩⟩]
noncomputable def dx1 : List Expr := []
noncomputable def b1 : Ss := (.cons (.expr (.mcall (.lv 3 ⟨7,4,7,9⟩) 6 ⟨7,4,7,16⟩ (.cons (.lv 4 ⟨7,17,7,21⟩) .nil) .nil ⟨7,4,7,22⟩) ⟨7,4,7,22⟩) (.cons (.asg (.nm 7 ⟨8,4,8,9⟩) (.bin .sub (.call (.gv 8 ⟨8,12,8,15⟩) (.cons (.lv 3 ⟨8,16,8,21⟩) .nil) .nil ⟨8,12,8,22⟩) (.cst (.int 1) 0 ⟨8,25,8,26⟩) ⟨8,12,8,26⟩) ⟨8,4,8,26⟩) (.cons (.whl (.band (.cons (.cmp (.lv 7 ⟨9,10,9,15⟩) .gt (.cst (.int 0) 0 ⟨9,18,9,19⟩) ⟨9,10,9,19⟩) (.cons (.call (.gv 2 ⟨9,24,9,30⟩) (.cons (.lv 4 ⟨9,31,9,35⟩) (.cons (.sub (.lv 3 ⟨9,37,9,42⟩) (.bin .sub (.lv 7 ⟨9,43,9,48⟩) (.cst (.int 1) 0 ⟨9,51,9,52⟩) ⟨9,43,9,52⟩) ⟨9,37,9,53⟩) .nil)) .nil ⟨9,24,9,54⟩) .nil)) ⟨9,10,9,54⟩) (.cons (.asg (.sub (.lv 3 ⟨10,8,10,13⟩) (.lv 7 ⟨10,14,10,19⟩) ⟨10,8,10,20⟩) (.sub (.lv 3 ⟨10,23,10,28⟩) (.bin .sub (.lv 7 ⟨10,29,10,34⟩) (.cst (.int 1) 0 ⟨10,37,10,38⟩) ⟨10,29,10,38⟩) ⟨10,23,10,39⟩) ⟨10,8,10,39⟩) (.cons (.aug 7 ⟨11,8,11,13⟩ .sub (.cst (.int 1) 0 ⟨11,17,11,18⟩) ⟨11,8,11,18⟩) .nil)) ⟨9,4,11,18⟩) (.cons (.asg (.sub (.lv 3 ⟨12,4,12,9⟩) (.lv 7 ⟨12,10,12,15⟩) ⟨12,4,12,16⟩) (.lv 4 ⟨12,19,12,23⟩) ⟨12,4,12,23⟩) .nil))))
noncomputable def kd1 : List (Nat × NameKind) := [(3, .local), (4, .local), (7, .local), (8, .globalImplicit), (2, .globalImplicit)]
noncomputable def sc1 : Scope := scp .function (kd1.map fun x => (nm x.1, x.2))
noncomputable def ag2 : List Arg := [⟨(nm 3), none, ⟨13,12,13,17⟩⟩]
noncomputable def dx2 : List Expr := []
noncomputable def b2 : Ss := (.cons (.ret (.mcall (.lv 3 ⟨14,11,14,16⟩) 10 ⟨14,11,14,20⟩ (.cons (.cst (.int 0) 0 ⟨14,21,14,22⟩) .nil) .nil ⟨14,11,14,23⟩) ⟨14,4,14,23⟩) .nil)
noncomputable def kd2 : List (Nat × NameKind) := [(3, .local)]
noncomputable def sc2 : Scope := scp .function (kd2.map fun x => (nm x.1, x.2))
noncomputable def ag3 : List Arg := [⟨(nm 20), none, ⟨33,17,33,21⟩⟩, ⟨(nm 21), none, ⟨33,23,33,32⟩⟩, ⟨(nm 22), none, ⟨33,34,33,40⟩⟩]
noncomputable def dx3 : List Expr := [(.Constant (.int 16) 0 ⟨33,41,33,43⟩)]
noncomputable def b3 : Ss := (.cons (.asg (.attr (.lv 20 ⟨34,8,34,12⟩) 21 ⟨34,8,34,22⟩) (.lv 21 ⟨34,25,34,34⟩) ⟨34,8,34,34⟩) (.cons (.asg (.attr (.lv 20 ⟨35,8,35,12⟩) 22 ⟨35,8,35,19⟩) (.lv 22 ⟨35,22,35,28⟩) ⟨35,8,35,28⟩) (.cons (.asg (.attr (.lv 20 ⟨36,8,36,12⟩) 24 ⟨36,8,36,21⟩) (.lst .nil ⟨36,24,36,26⟩) ⟨36,8,36,26⟩) (.cons (.asg (.attr (.lv 20 ⟨37,8,37,12⟩) 25 ⟨37,8,37,19⟩) (.cst .none 0 ⟨37,22,37,26⟩) ⟨37,8,37,26⟩) (.cons (.asg (.attr (.lv 20 ⟨38,8,38,12⟩) 26 ⟨38,8,38,24⟩) (.lst .nil ⟨38,27,38,29⟩) ⟨38,8,38,29⟩) (.cons (.asg (.attr (.lv 20 ⟨39,8,39,12⟩) 27 ⟨39,8,39,19⟩) (.cst (.bool true) 0 ⟨39,22,39,26⟩) ⟨39,8,39,26⟩) (.cons (.asg (.attr (.lv 20 ⟨40,8,40,12⟩) 28 ⟨40,8,40,24⟩) (.cst (.int 0) 0 ⟨40,27,40,28⟩) ⟨40,8,40,28⟩) (.cons (.asg (.attr (.lv 20 ⟨41,8,41,12⟩) 29 ⟨41,8,41,21⟩) (.cst (.int 0) 0 ⟨41,24,41,25⟩) ⟨41,8,41,25⟩) .nil))))))))
noncomputable def kd3 : List (Nat × NameKind) := [(20, .local), (21, .local), (22, .local)]
noncomputable def sc3 : Scope := scp .function (kd3.map fun x => (nm x.1, x.2))
noncomputable def ag4 : List Arg := [⟨(nm 20), none, ⟨44,15,44,19⟩⟩]
noncomputable def dx4 : List Expr := []
noncomputable def b4 : Ss := (.cons (.ret (.attr (.lv 20 ⟨45,15,45,19⟩) 30 ⟨45,15,45,27⟩) ⟨45,8,45,27⟩) .nil)
noncomputable def kd4 : List (Nat × NameKind) := [(20, .local)]
noncomputable def sc4 : Scope := scp .function (kd4.map fun x => (nm x.1, x.2))
noncomputable def ag5 : List Arg := [⟨(nm 20), none, ⟨48,15,48,19⟩⟩, ⟨(nm 31), none, ⟨48,21,48,26⟩⟩]
noncomputable def dx5 : List Expr := []
noncomputable def b5 : Ss := (.cons (.ife (.not (.call (.gv 32 ⟨49,15,49,25⟩) (.cons (.lv 31 ⟨49,26,49,31⟩) (.cons (.gv 33 ⟨49,33,49,36⟩) .nil)) .nil ⟨49,15,49,37⟩) ⟨49,11,49,37⟩) (.cons (.raise 17 ⟨50,18,50,32⟩ (.cst (.str 34) 0 ⟨50,33,50,69⟩) ⟨50,18,50,70⟩ ⟨50,12,50,70⟩) .nil) (.cons (.ife (.not (.cmp2 (.cst (.int 1) 0 ⟨51,17,51,18⟩) .le (.lv 31 ⟨51,22,51,27⟩) .le (.cst (.int 256) 0 ⟨51,31,51,34⟩) ⟨51,17,51,34⟩) ⟨51,13,51,34⟩) (.cons (.raise 17 ⟨52,18,52,32⟩ (.cst (.str 35) 0 ⟨52,33,52,86⟩) ⟨52,18,52,87⟩ ⟨52,12,52,87⟩) .nil) .nil ⟨51,8,52,87⟩) .nil) ⟨49,8,52,87⟩) (.cons (.asg (.attr (.lv 20 ⟨53,8,53,12⟩) 30 ⟨53,8,53,20⟩) (.lv 31 ⟨53,23,53,28⟩) ⟨53,8,53,28⟩) .nil))
noncomputable def kd5 : List (Nat × NameKind) := [(20, .local), (31, .local), (32, .globalImplicit), (33, .globalImplicit), (17, .globalImplicit)]
noncomputable def sc5 : Scope := scp .function (kd5.map fun x => (nm x.1, x.2))
noncomputable def ag6 : List Arg := [⟨(nm 20), none, ⟨55,18,55,22⟩⟩, ⟨(nm 36), none, ⟨55,24,55,29⟩⟩]
noncomputable def dx6 : List Expr := []
noncomputable def b6 : Ss := (.cons (.asg (.attr (.lv 36 ⟨56,8,56,13⟩) 25 ⟨56,8,56,20⟩) (.lv 20 ⟨56,23,56,27⟩) ⟨56,8,56,27⟩) (.cons (.expr (.mcall (.attr (.lv 20 ⟨57,8,57,12⟩) 24 ⟨57,8,57,21⟩) 6 ⟨57,8,57,28⟩ (.cons (.lv 36 ⟨57,29,57,34⟩) .nil) .nil ⟨57,8,57,35⟩) ⟨57,8,57,35⟩) (.cons (.expr (.call (.gv 5 ⟨58,8,58,16⟩) (.cons (.attr (.lv 20 ⟨58,17,58,21⟩) 26 ⟨58,17,58,33⟩) (.cons (.tup (.cons (.attr (.lv 20 ⟨58,36,58,40⟩) 28 ⟨58,36,58,52⟩) (.cons (.lv 36 ⟨58,54,58,59⟩) .nil)) 0 ⟨58,35,58,60⟩) .nil)) .nil ⟨58,8,58,61⟩) ⟨58,8,58,61⟩) .nil)))
noncomputable def kd6 : List (Nat × NameKind) := [(20, .local), (36, .local), (5, .globalImplicit)]
noncomputable def sc6 : Scope := scp .function (kd6.map fun x => (nm x.1, x.2))
noncomputable def ag7 : List Arg := [⟨(nm 20), none, ⟨60,28,60,32⟩⟩, ⟨(nm 36), none, ⟨60,34,60,39⟩⟩]
noncomputable def dx7 : List Expr := []
noncomputable def b7 : Ss := (.cons (.asg (.nm 39 ⟨61,8,61,20⟩) (.attr (.lv 20 ⟨61,23,61,27⟩) 24 ⟨61,23,61,36⟩) ⟨61,8,61,36⟩) (.cons (.asg (.attr (.lv 20 ⟨62,8,62,12⟩) 24 ⟨62,8,62,21⟩) (.lst .nil ⟨62,24,62,26⟩) ⟨62,8,62,26⟩) (.cons (.asg (.attr (.lv 20 ⟨63,8,63,12⟩) 26 ⟨63,8,63,24⟩) (.lst .nil ⟨63,27,63,29⟩) ⟨63,8,63,29⟩) (.cons (.asg (.attr (.lv 20 ⟨64,8,64,12⟩) 28 ⟨64,8,64,24⟩) (.cst (.int 0) 0 ⟨64,27,64,28⟩) ⟨64,8,64,28⟩) (.cons (.expr (.mcall (.lv 20 ⟨65,8,65,12⟩) 37 ⟨65,8,65,22⟩ (.cons (.lv 36 ⟨65,23,65,28⟩) .nil) .nil ⟨65,8,65,29⟩) ⟨65,8,65,29⟩) (.cons (.for (.nm 40 ⟨66,12,66,21⟩) (.lv 39 ⟨66,25,66,37⟩) (.cons (.expr (.mcall (.lv 36 ⟨67,12,67,17⟩) 37 ⟨67,12,67,27⟩ (.cons (.lv 40 ⟨67,28,67,37⟩) .nil) .nil ⟨67,12,67,38⟩) ⟨67,12,67,38⟩) .nil) ⟨66,8,67,38⟩) .nil))))))
noncomputable def kd7 : List (Nat × NameKind) := [(20, .local), (36, .local), (39, .local), (40, .local)]
noncomputable def sc7 : Scope := scp .function (kd7.map fun x => (nm x.1, x.2))
noncomputable def ag8 : List Arg := [⟨(nm 20), none, ⟨69,21,69,25⟩⟩, ⟨(nm 36), none, ⟨69,27,69,32⟩⟩, ⟨(nm 41), none, ⟨69,34,69,48⟩⟩]
noncomputable def dx8 : List Expr := [(.Constant (.bool true) 0 ⟨69,49,69,53⟩)]
noncomputable def b8 : Ss := (.cons (.expr (.mcall (.attr (.lv 20 ⟨70,8,70,12⟩) 24 ⟨70,8,70,21⟩) 43 ⟨70,8,70,28⟩ (.cons (.lv 36 ⟨70,29,70,34⟩) .nil) .nil ⟨70,8,70,35⟩) ⟨70,8,70,35⟩) (.cons (.asg (.nm 44 ⟨71,8,71,17⟩) (.lst .nil ⟨71,20,71,22⟩) ⟨71,8,71,22⟩) (.cons (.whl (.attr (.lv 20 ⟨72,14,72,18⟩) 26 ⟨72,14,72,30⟩) (.cons (.asg (.tup 45 ⟨73,12,73,17⟩ 46 ⟨73,19,73,25⟩ 0 ⟨73,12,73,25⟩) (.call (.gv 9 ⟨73,28,73,35⟩) (.cons (.attr (.lv 20 ⟨73,36,73,40⟩) 26 ⟨73,36,73,52⟩) .nil) .nil ⟨73,28,73,53⟩) ⟨73,12,73,53⟩) (.cons (.ife (.cmp (.lv 46 ⟨74,15,74,21⟩) .eq (.lv 36 ⟨74,25,74,30⟩) ⟨74,15,74,30⟩) (.cons (.cont ⟨75,16,75,24⟩) .nil) .nil ⟨74,12,75,24⟩) (.cons (.expr (.call (.gv 5 ⟨76,12,76,20⟩) (.cons (.lv 44 ⟨76,21,76,30⟩) (.cons (.tup (.cons (.lv 45 ⟨76,33,76,38⟩) (.cons (.lv 46 ⟨76,40,76,46⟩) .nil)) 0 ⟨76,32,76,47⟩) .nil)) .nil ⟨76,12,76,48⟩) ⟨76,12,76,48⟩) .nil))) ⟨72,8,76,48⟩) (.cons (.asg (.attr (.lv 20 ⟨77,8,77,12⟩) 26 ⟨77,8,77,24⟩) (.lv 44 ⟨77,27,77,36⟩) ⟨77,8,77,36⟩) (.cons (.ife (.lv 41 ⟨78,11,78,25⟩) (.cons (.for (.nm 47 ⟨79,16,79,25⟩) (.attr (.lv 36 ⟨79,29,79,34⟩) 24 ⟨79,29,79,43⟩) (.cons (.expr (.mcall (.lv 20 ⟨80,16,80,20⟩) 37 ⟨80,16,80,30⟩ (.cons (.lv 47 ⟨80,31,80,40⟩) .nil) .nil ⟨80,16,80,41⟩) ⟨80,16,80,41⟩) .nil) ⟨79,12,80,41⟩) .nil) .nil ⟨78,8,80,41⟩) .nil)))))
noncomputable def kd8 : List (Nat × NameKind) := [(20, .local), (36, .local), (41, .local), (44, .local), (45, .local), (46, .local), (47, .local), (9, .globalImplicit), (5, .globalImplicit)]
noncomputable def sc8 : Scope := scp .function (kd8.map fun x => (nm x.1, x.2))
noncomputable def ag9 : List Arg := [⟨(nm 20), none, ⟨82,17,82,21⟩⟩]
noncomputable def dx9 : List Expr := []
noncomputable def b9 : Ss := (.cons (.assert (.not (.attr (.lv 20 ⟨83,19,83,23⟩) 27 ⟨83,19,83,30⟩) ⟨83,15,83,30⟩) ⟨83,8,83,30⟩) (.cons (.asg (.nm 49 ⟨84,8,84,19⟩) (.cst .none 0 ⟨84,22,84,26⟩) ⟨84,8,84,26⟩) (.cons (.asg (.nm 50 ⟨85,8,85,22⟩) (.lst .nil ⟨85,25,85,27⟩) ⟨85,8,85,27⟩) (.cons (.fin (.cons (.whl (.cmp (.lv 49 ⟨87,18,87,29⟩) .is (.cst .none 0 ⟨87,33,87,37⟩) ⟨87,18,87,37⟩) (.cons (.asg (.nm 51 ⟨88,16,88,19⟩) (.call (.gv 9 ⟨88,22,88,29⟩) (.cons (.attr (.lv 20 ⟨88,30,88,34⟩) 26 ⟨88,30,88,46⟩) .nil) .nil ⟨88,22,88,47⟩) ⟨88,16,88,47⟩) (.cons (.expr (.mcall (.lv 50 ⟨89,16,89,30⟩) 6 ⟨89,16,89,37⟩ (.cons (.lv 51 ⟨89,38,89,41⟩) .nil) .nil ⟨89,16,89,42⟩) ⟨89,16,89,42⟩) (.cons (.asg (.tup 45 ⟨90,16,90,21⟩ 36 ⟨90,23,90,28⟩ 0 ⟨90,16,90,28⟩) (.lv 51 ⟨90,31,90,34⟩) ⟨90,16,90,34⟩) (.cons (.ife (.attr (.lv 36 ⟨91,19,91,24⟩) 27 ⟨91,19,91,31⟩) (.cons (.asg (.nm 49 ⟨92,20,92,31⟩) (.attr (.lv 36 ⟨92,34,92,39⟩) 21 ⟨92,34,92,49⟩) ⟨92,20,92,49⟩) .nil) (.cons (.try (.cons (.asg (.nm 49 ⟨95,24,95,35⟩) (.mcall (.lv 36 ⟨95,38,95,43⟩) 48 ⟨95,38,95,52⟩ .nil .nil ⟨95,38,95,54⟩) ⟨95,24,95,54⟩) .nil) (.cons 52 ⟨96,27,96,37⟩ (.cons (.cont ⟨97,24,97,32⟩) .nil) ⟨96,20,97,32⟩ .nil) ⟨94,20,97,32⟩) .nil) ⟨91,16,97,32⟩) .nil)))) ⟨87,12,97,32⟩) .nil) (.cons (.for (.tup 45 ⟨99,16,99,21⟩ 36 ⟨99,23,99,28⟩ 0 ⟨99,16,99,28⟩) (.lv 50 ⟨99,32,99,46⟩) (.cons (.asg (.attr (.lv 20 ⟨100,16,100,20⟩) 28 ⟨100,16,100,32⟩) (.lv 45 ⟨100,35,100,40⟩) ⟨100,16,100,40⟩) (.cons (.aug 45 ⟨101,16,101,21⟩ .add (.bin .fdiv (.bin .add (.cst (.int 256) 0 ⟨101,26,101,29⟩) (.attr (.lv 36 ⟨101,32,101,37⟩) 29 ⟨101,32,101,46⟩) ⟨101,26,101,46⟩) (.attr (.lv 36 ⟨101,51,101,56⟩) 22 ⟨101,51,101,63⟩) ⟨101,25,101,63⟩) ⟨101,16,101,63⟩) (.cons (.asg (.attr (.lv 36 ⟨102,16,102,21⟩) 29 ⟨102,16,102,30⟩) (.bin .mod (.bin .add (.cst (.int 256) 0 ⟨102,34,102,37⟩) (.attr (.lv 36 ⟨102,40,102,45⟩) 29 ⟨102,40,102,54⟩) ⟨102,34,102,54⟩) (.attr (.lv 36 ⟨102,58,102,63⟩) 22 ⟨102,58,102,70⟩) ⟨102,33,102,70⟩) ⟨102,16,102,70⟩) (.cons (.expr (.call (.gv 5 ⟨103,16,103,24⟩) (.cons (.attr (.lv 20 ⟨103,25,103,29⟩) 26 ⟨103,25,103,41⟩) (.cons (.tup (.cons (.lv 45 ⟨103,44,103,49⟩) (.cons (.lv 36 ⟨103,51,103,56⟩) .nil)) 0 ⟨103,43,103,57⟩) .nil)) .nil ⟨103,16,103,58⟩) ⟨103,16,103,58⟩) .nil)))) ⟨99,12,103,58⟩) .nil) ⟨86,8,103,58⟩) (.cons (.ret (.lv 49 ⟨104,15,104,26⟩) ⟨104,8,104,26⟩) .nil)))))
noncomputable def kd9 : List (Nat × NameKind) := [(20, .local), (49, .local), (50, .local), (51, .local), (45, .local), (36, .local), (9, .globalImplicit), (52, .globalImplicit), (5, .globalImplicit)]
noncomputable def sc9 : Scope := scp .function (kd9.map fun x => (nm x.1, x.2))
noncomputable def ag10 : List Arg := [⟨(nm 20), none, ⟨106,17,106,21⟩⟩]
noncomputable def dx10 : List Expr := []
noncomputable def b10 : Ss := (.cons (.ret (.bin .mod (.cst (.str 54) 0 ⟨107,15,107,41⟩) (.tup (.cons (.attr (.lv 20 ⟨107,45,107,49⟩) 21 ⟨107,45,107,59⟩) (.cons (.attr (.lv 20 ⟨107,61,107,65⟩) 22 ⟨107,61,107,72⟩) .nil)) 0 ⟨107,44,107,73⟩) ⟨107,15,107,73⟩) ⟨107,8,107,73⟩) .nil)
noncomputable def kd10 : List (Nat × NameKind) := [(20, .local)]
noncomputable def sc10 : Scope := scp .function (kd10.map fun x => (nm x.1, x.2))
noncomputable def ag11 : List Arg := [⟨(nm 20), none, ⟨109,15,109,19⟩⟩, ⟨(nm 1), none, ⟨109,21,109,26⟩⟩]
noncomputable def dx11 : List Expr := []
noncomputable def b11 : Ss := (.cons (.ife (.not (.call (.gv 32 ⟨110,15,110,25⟩) (.cons (.lv 1 ⟨110,26,110,31⟩) (.cons (.gv 19 ⟨110,33,110,39⟩) .nil)) .nil ⟨110,15,110,40⟩) ⟨110,11,110,40⟩) (.cons (.ret (.cst (.bool false) 0 ⟨111,19,111,24⟩) ⟨111,12,111,24⟩) .nil) .nil ⟨110,8,111,24⟩) (.cons (.ret (.cmp (.attr (.lv 20 ⟨112,15,112,19⟩) 21 ⟨112,15,112,29⟩) .eq (.attr (.lv 1 ⟨112,33,112,38⟩) 21 ⟨112,33,112,48⟩) ⟨112,15,112,48⟩) ⟨112,8,112,48⟩) .nil))
noncomputable def kd11 : List (Nat × NameKind) := [(20, .local), (1, .local), (32, .globalImplicit), (19, .globalImplicit)]
noncomputable def sc11 : Scope := scp .function (kd11.map fun x => (nm x.1, x.2))
noncomputable def ag12 : List Arg := [⟨(nm 20), none, ⟨114,15,114,19⟩⟩, ⟨(nm 1), none, ⟨114,21,114,26⟩⟩]
noncomputable def dx12 : List Expr := []
noncomputable def b12 : Ss := (.cons (.ret (.not (.mcall (.lv 20 ⟨115,19,115,23⟩) 55 ⟨115,19,115,30⟩ (.cons (.lv 1 ⟨115,31,115,36⟩) .nil) .nil ⟨115,19,115,37⟩) ⟨115,15,115,37⟩) ⟨115,8,115,37⟩) .nil)
noncomputable def kd12 : List (Nat × NameKind) := [(20, .local), (1, .local)]
noncomputable def sc12 : Scope := scp .function (kd12.map fun x => (nm x.1, x.2))
noncomputable def ag13 : List Arg := [⟨(nm 20), none, ⟨117,15,117,19⟩⟩, ⟨(nm 1), none, ⟨117,21,117,26⟩⟩]
noncomputable def dx13 : List Expr := []
noncomputable def b13 : Ss := (.cons (.ife (.not (.call (.gv 32 ⟨118,15,118,25⟩) (.cons (.lv 1 ⟨118,26,118,31⟩) (.cons (.gv 19 ⟨118,33,118,39⟩) .nil)) .nil ⟨118,15,118,40⟩) ⟨118,11,118,40⟩) (.cons (.ret (.gv 58 ⟨119,19,119,33⟩) ⟨119,12,119,33⟩) .nil) .nil ⟨118,8,119,33⟩) (.cons (.ret (.cmp (.attr (.lv 20 ⟨120,15,120,19⟩) 21 ⟨120,15,120,29⟩) .lt (.attr (.lv 1 ⟨120,32,120,37⟩) 21 ⟨120,32,120,47⟩) ⟨120,15,120,47⟩) ⟨120,8,120,47⟩) .nil))
noncomputable def kd13 : List (Nat × NameKind) := [(20, .local), (1, .local), (32, .globalImplicit), (19, .globalImplicit), (58, .globalImplicit)]
noncomputable def sc13 : Scope := scp .function (kd13.map fun x => (nm x.1, x.2))
noncomputable def ag14 : List Arg := [⟨(nm 20), none, ⟨122,15,122,19⟩⟩, ⟨(nm 1), none, ⟨122,21,122,26⟩⟩]
noncomputable def dx14 : List Expr := []
noncomputable def b14 : Ss := (.cons (.ife (.not (.call (.gv 32 ⟨123,15,123,25⟩) (.cons (.lv 1 ⟨123,26,123,31⟩) (.cons (.gv 19 ⟨123,33,123,39⟩) .nil)) .nil ⟨123,15,123,40⟩) ⟨123,11,123,40⟩) (.cons (.ret (.gv 58 ⟨124,19,124,33⟩) ⟨124,12,124,33⟩) .nil) .nil ⟨123,8,124,33⟩) (.cons (.ret (.cmp (.attr (.lv 20 ⟨125,15,125,19⟩) 21 ⟨125,15,125,29⟩) .le (.attr (.lv 1 ⟨125,33,125,38⟩) 21 ⟨125,33,125,48⟩) ⟨125,15,125,48⟩) ⟨125,8,125,48⟩) .nil))
noncomputable def kd14 : List (Nat × NameKind) := [(20, .local), (1, .local), (32, .globalImplicit), (19, .globalImplicit), (58, .globalImplicit)]
noncomputable def sc14 : Scope := scp .function (kd14.map fun x => (nm x.1, x.2))
noncomputable def ag15 : List Arg := [⟨(nm 20), none, ⟨127,15,127,19⟩⟩, ⟨(nm 1), none, ⟨127,21,127,26⟩⟩]
noncomputable def dx15 : List Expr := []
noncomputable def b15 : Ss := (.cons (.ife (.not (.call (.gv 32 ⟨128,15,128,25⟩) (.cons (.lv 1 ⟨128,26,128,31⟩) (.cons (.gv 19 ⟨128,33,128,39⟩) .nil)) .nil ⟨128,15,128,40⟩) ⟨128,11,128,40⟩) (.cons (.ret (.gv 58 ⟨129,19,129,33⟩) ⟨129,12,129,33⟩) .nil) .nil ⟨128,8,129,33⟩) (.cons (.ret (.cmp (.attr (.lv 20 ⟨130,15,130,19⟩) 21 ⟨130,15,130,29⟩) .gt (.attr (.lv 1 ⟨130,32,130,37⟩) 21 ⟨130,32,130,47⟩) ⟨130,15,130,47⟩) ⟨130,8,130,47⟩) .nil))
noncomputable def kd15 : List (Nat × NameKind) := [(20, .local), (1, .local), (32, .globalImplicit), (19, .globalImplicit), (58, .globalImplicit)]
noncomputable def sc15 : Scope := scp .function (kd15.map fun x => (nm x.1, x.2))
noncomputable def ag16 : List Arg := [⟨(nm 20), none, ⟨132,15,132,19⟩⟩, ⟨(nm 1), none, ⟨132,21,132,26⟩⟩]
noncomputable def dx16 : List Expr := []
noncomputable def b16 : Ss := (.cons (.ife (.not (.call (.gv 32 ⟨133,15,133,25⟩) (.cons (.lv 1 ⟨133,26,133,31⟩) (.cons (.gv 19 ⟨133,33,133,39⟩) .nil)) .nil ⟨133,15,133,40⟩) ⟨133,11,133,40⟩) (.cons (.ret (.gv 58 ⟨134,19,134,33⟩) ⟨134,12,134,33⟩) .nil) .nil ⟨133,8,134,33⟩) (.cons (.ret (.cmp (.attr (.lv 20 ⟨135,15,135,19⟩) 21 ⟨135,15,135,29⟩) .ge (.attr (.lv 1 ⟨135,33,135,38⟩) 21 ⟨135,33,135,48⟩) ⟨135,15,135,48⟩) ⟨135,8,135,48⟩) .nil))
noncomputable def kd16 : List (Nat × NameKind) := [(20, .local), (1, .local), (32, .globalImplicit), (19, .globalImplicit), (58, .globalImplicit)]
noncomputable def sc16 : Scope := scp .function (kd16.map fun x => (nm x.1, x.2))
noncomputable def ag17 : List Arg := [⟨(nm 62), none, ⟨136,18,136,28⟩⟩, ⟨(nm 63), none, ⟨136,30,136,37⟩⟩]
noncomputable def dx17 : List Expr := []
noncomputable def b17 : Ss := (.cons (.asg (.nm 25 ⟨137,4,137,10⟩) (.lv 62 ⟨137,13,137,23⟩) ⟨137,4,137,23⟩) (.cons (.for (.nm 65 ⟨138,8,138,9⟩) (.call (.gv 66 ⟨138,13,138,18⟩) (.cons (.cst (.int 100) 0 ⟨138,19,138,22⟩) .nil) .nil ⟨138,13,138,23⟩) (.cons (.asg (.nm 25 ⟨139,8,139,14⟩) (.attr (.lv 25 ⟨139,17,139,23⟩) 25 ⟨139,17,139,30⟩) ⟨139,8,139,30⟩) (.cons (.ife (.cmp (.attr (.lv 25 ⟨140,11,140,17⟩) 21 ⟨140,11,140,27⟩) .eq (.attr (.lv 63 ⟨140,31,140,38⟩) 21 ⟨140,31,140,48⟩) ⟨140,11,140,48⟩) (.cons (.ret (.cst (.bool true) 0 ⟨141,19,141,23⟩) ⟨141,12,141,23⟩) .nil) (.cons (.ife (.cmp (.attr (.lv 25 ⟨142,13,142,19⟩) 21 ⟨142,13,142,29⟩) .eq (.cst (.int 0) 0 ⟨142,33,142,34⟩) ⟨142,13,142,34⟩) (.cons (.ret (.cst (.bool false) 0 ⟨143,19,143,24⟩) ⟨143,12,143,24⟩) .nil) .nil ⟨142,8,143,24⟩) .nil) ⟨140,8,143,24⟩) .nil)) ⟨138,4,143,24⟩) (.cons (.raise 13 ⟨144,10,144,22⟩ (.bin .mod (.cst (.str 67) 0 ⟨144,23,144,57⟩) (.attr (.lv 62 ⟨144,60,144,70⟩) 21 ⟨144,60,144,80⟩) ⟨144,23,144,80⟩) ⟨144,10,144,81⟩ ⟨144,4,144,81⟩) .nil)))
noncomputable def kd17 : List (Nat × NameKind) := [(62, .local), (63, .local), (25, .local), (65, .local), (66, .globalImplicit), (13, .globalImplicit)]
noncomputable def sc17 : Scope := scp .function (kd17.map fun x => (nm x.1, x.2))
noncomputable def ag18 : List Arg := [⟨(nm 20), none, ⟨147,17,147,21⟩⟩, ⟨(nm 69), none, ⟨147,23,147,38⟩⟩]
noncomputable def dx18 : List Expr := [(.Constant (.int 1000) 0 ⟨147,39,147,43⟩)]
noncomputable def b18 : Ss := (.cons (.asg (.attr (.lv 20 ⟨148,8,148,12⟩) 70 ⟨148,8,148,25⟩) (.call (.gv 19 ⟨148,28,148,34⟩) .nil (.cons 21 (.cst (.int 0) 0 ⟨148,45,148,46⟩) ⟨148,35,148,46⟩ (.cons 22 (.cst (.int 1) 0 ⟨148,55,148,56⟩) ⟨148,48,148,56⟩ .nil)) ⟨148,28,148,57⟩) ⟨148,8,148,57⟩) (.cons (.asg (.attr (.attr (.lv 20 ⟨149,8,149,12⟩) 70 ⟨149,8,149,25⟩) 27 ⟨149,8,149,32⟩) (.cst (.bool false) 0 ⟨149,35,149,40⟩) ⟨149,8,149,40⟩) (.cons (.asg (.attr (.lv 20 ⟨150,8,150,12⟩) 71 ⟨150,8,150,21⟩) (.dct1 (.cst (.int 0) 0 ⟨150,25,150,26⟩) (.attr (.lv 20 ⟨150,28,150,32⟩) 70 ⟨150,28,150,45⟩) ⟨150,24,150,46⟩) ⟨150,8,150,46⟩) (.cons (.ife (.not (.call (.gv 32 ⟨151,15,151,25⟩) (.cons (.lv 69 ⟨151,26,151,41⟩) (.cons (.gv 33 ⟨151,43,151,46⟩) .nil)) .nil ⟨151,15,151,47⟩) ⟨151,11,151,47⟩) (.cons (.raise 72 ⟨152,18,152,27⟩ (.cst (.str 73) 0 ⟨152,28,152,61⟩) ⟨152,18,152,62⟩ ⟨152,12,152,62⟩) .nil) .nil ⟨151,8,152,62⟩) (.cons (.ife (.cmp (.lv 69 ⟨153,11,153,26⟩) .le (.cst (.int 0) 0 ⟨153,30,153,31⟩) ⟨153,11,153,31⟩) (.cons (.raise 74 ⟨154,18,154,28⟩ (.cst (.str 75) 0 ⟨154,29,154,74⟩) ⟨154,18,154,75⟩ ⟨154,12,154,75⟩) .nil) .nil ⟨153,8,154,75⟩) (.cons (.asg (.attr (.lv 20 ⟨155,8,155,12⟩) 76 ⟨155,8,155,29⟩) (.lv 69 ⟨155,32,155,47⟩) ⟨155,8,155,47⟩) .nil))))))
noncomputable def kd18 : List (Nat × NameKind) := [(20, .local), (69, .local), (19, .globalImplicit), (32, .globalImplicit), (33, .globalImplicit), (72, .globalImplicit), (74, .globalImplicit)]
noncomputable def sc18 : Scope := scp .function (kd18.map fun x => (nm x.1, x.2))
noncomputable def ag19 : List Arg := [⟨(nm 20), none, ⟨157,30,157,34⟩⟩, ⟨(nm 77), none, ⟨157,36,157,52⟩⟩]
noncomputable def dx19 : List Expr := []
noncomputable def b19 : Ss := (.cons (.try (.cons (.ret (.sub (.attr (.lv 20 ⟨159,19,159,23⟩) 71 ⟨159,19,159,32⟩) (.lv 77 ⟨159,33,159,49⟩) ⟨159,19,159,50⟩) ⟨159,12,159,50⟩) .nil) (.cons 79 ⟨160,15,160,23⟩ (.cons (.expr (.mcall (.lv 20 ⟨161,12,161,16⟩) 80 ⟨161,12,161,30⟩ (.cons (.lv 77 ⟨161,31,161,47⟩) .nil) .nil ⟨161,12,161,48⟩) ⟨161,12,161,48⟩) (.cons (.expr (.mcall (.lv 20 ⟨162,12,162,16⟩) 81 ⟨162,12,162,22⟩ (.cons (.lv 77 ⟨162,23,162,39⟩) .nil) .nil ⟨162,12,162,40⟩) ⟨162,12,162,40⟩) (.cons (.ret (.sub (.attr (.lv 20 ⟨163,19,163,23⟩) 71 ⟨163,19,163,32⟩) (.lv 77 ⟨163,33,163,49⟩) ⟨163,19,163,50⟩) ⟨163,12,163,50⟩) .nil))) ⟨160,8,163,50⟩ .nil) ⟨158,8,163,50⟩) .nil)
noncomputable def kd19 : List (Nat × NameKind) := [(20, .local), (77, .local), (79, .globalImplicit)]
noncomputable def sc19 : Scope := scp .function (kd19.map fun x => (nm x.1, x.2))
noncomputable def ag20 : List Arg := [⟨(nm 20), none, ⟨165,26,165,30⟩⟩, ⟨(nm 82), none, ⟨165,32,165,45⟩⟩, ⟨(nm 83), none, ⟨165,47,165,62⟩⟩]
noncomputable def dx20 : List Expr := []
noncomputable def b20 : Ss := (.cons (.expr (.mcall (.lv 82 ⟨166,8,166,21⟩) 38 ⟨166,8,166,41⟩ (.cons (.lv 83 ⟨166,42,166,57⟩) .nil) .nil ⟨166,8,166,58⟩) ⟨166,8,166,58⟩) .nil)
noncomputable def kd20 : List (Nat × NameKind) := [(20, .local), (82, .local), (83, .local)]
noncomputable def sc20 : Scope := scp .function (kd20.map fun x => (nm x.1, x.2))
noncomputable def ag21 : List Arg := [⟨(nm 20), none, ⟨168,22,168,26⟩⟩, ⟨(nm 21), none, ⟨168,28,168,37⟩⟩, ⟨(nm 85), none, ⟨168,39,168,49⟩⟩, ⟨(nm 22), none, ⟨168,56,168,62⟩⟩, ⟨(nm 86), none, ⟨168,67,168,76⟩⟩]
noncomputable def dx21 : List Expr := [(.Constant .none 0 ⟨168,50,168,54⟩), (.Constant (.int 16) 0 ⟨168,63,168,65⟩), (.Constant (.bool false) 0 ⟨168,77,168,82⟩)]
noncomputable def b21 : Ss := (.cons (.ife (.cmp (.lv 21 ⟨169,11,169,20⟩) .isin (.attr (.lv 20 ⟨169,24,169,28⟩) 71 ⟨169,24,169,37⟩) ⟨169,11,169,37⟩) (.cons (.raise 14 ⟨170,18,170,38⟩ (.bin .mod (.cst (.str 87) 0 ⟨170,39,170,66⟩) (.lv 21 ⟨170,69,170,78⟩) ⟨170,39,170,78⟩) ⟨170,18,170,79⟩ ⟨170,12,170,79⟩) .nil) .nil ⟨169,8,170,79⟩) (.cons (.ife (.cmp (.bin .add (.call (.gv 8 ⟨171,11,171,14⟩) (.cons (.attr (.lv 20 ⟨171,15,171,19⟩) 71 ⟨171,15,171,28⟩) .nil) .nil ⟨171,11,171,29⟩) (.cst (.int 1) 0 ⟨171,32,171,33⟩) ⟨171,11,171,33⟩) .gt (.attr (.lv 20 ⟨171,36,171,40⟩) 76 ⟨171,36,171,57⟩) ⟨171,11,171,57⟩) (.cons (.raise 16 ⟨172,18,172,37⟩ (.bin .mod (.cst (.str 88) 0 ⟨172,38,172,96⟩) (.bin .add (.attr (.lv 20 ⟨172,100,172,104⟩) 76 ⟨172,100,172,121⟩) (.cst (.int 1) 0 ⟨172,124,172,125⟩) ⟨172,100,172,125⟩) ⟨172,38,172,126⟩) ⟨172,18,172,127⟩ ⟨172,12,172,127⟩) .nil) .nil ⟨171,8,172,127⟩) (.cons (.asg (.nm 46 ⟨173,8,173,14⟩) (.call (.gv 19 ⟨173,17,173,23⟩) (.cons (.lv 21 ⟨173,24,173,33⟩) (.cons (.lv 22 ⟨173,35,173,41⟩) .nil)) .nil ⟨173,17,173,42⟩) ⟨173,8,173,42⟩) (.cons (.ife (.not (.lv 85 ⟨174,15,174,25⟩) ⟨174,11,174,25⟩) (.cons (.asg (.nm 85 ⟨175,12,175,22⟩) (.cst (.int 0) 0 ⟨175,25,175,26⟩) ⟨175,12,175,26⟩) .nil) (.cons (.ife (.cmp (.lv 85 ⟨176,13,176,23⟩) .eq (.lv 21 ⟨176,27,176,36⟩) ⟨176,13,176,36⟩) (.cons (.raise 13 ⟨177,18,177,30⟩ (.bin .mod (.cst (.str 89) 0 ⟨177,31,177,69⟩) (.lv 21 ⟨177,72,177,81⟩) ⟨177,31,177,81⟩) ⟨177,18,177,82⟩ ⟨177,12,177,82⟩) .nil) .nil ⟨176,8,177,82⟩) .nil) ⟨174,8,177,82⟩) (.cons (.ife (.lv 86 ⟨178,11,178,20⟩) (.cons (.asg (.nm 82 ⟨179,12,179,25⟩) (.mcall (.lv 20 ⟨179,28,179,32⟩) 78 ⟨179,28,179,54⟩ (.cons (.lv 85 ⟨179,55,179,65⟩) .nil) .nil ⟨179,28,179,66⟩) ⟨179,12,179,66⟩) (.cons (.expr (.mcall (.lv 20 ⟨180,12,180,16⟩) 84 ⟨180,12,180,34⟩ (.cons (.lv 82 ⟨180,35,180,48⟩) (.cons (.lv 46 ⟨180,50,180,56⟩) .nil)) .nil ⟨180,12,180,57⟩) ⟨180,12,180,57⟩) (.cons (.asg (.sub (.attr (.lv 20 ⟨181,12,181,16⟩) 71 ⟨181,12,181,25⟩) (.lv 21 ⟨181,26,181,35⟩) ⟨181,12,181,36⟩) (.lv 46 ⟨181,39,181,45⟩) ⟨181,12,181,45⟩) (.cons (.ret0 ⟨182,12,182,18⟩) .nil)))) .nil ⟨178,8,182,18⟩) (.cons (.asg (.nm 25 ⟨183,8,183,14⟩) (.mcall (.lv 20 ⟨183,17,183,21⟩) 78 ⟨183,17,183,43⟩ (.cons (.lv 85 ⟨183,44,183,54⟩) .nil) .nil ⟨183,17,183,55⟩) ⟨183,8,183,55⟩) (.cons (.expr (.mcall (.lv 25 ⟨184,8,184,14⟩) 37 ⟨184,8,184,24⟩ (.cons (.lv 46 ⟨184,25,184,31⟩) .nil) .nil ⟨184,8,184,32⟩) ⟨184,8,184,32⟩) (.cons (.asg (.sub (.attr (.lv 20 ⟨185,8,185,12⟩) 71 ⟨185,8,185,21⟩) (.lv 21 ⟨185,22,185,31⟩) ⟨185,8,185,32⟩) (.lv 46 ⟨185,35,185,41⟩) ⟨185,8,185,41⟩) .nil))))))))
noncomputable def kd21 : List (Nat × NameKind) := [(20, .local), (21, .local), (85, .local), (22, .local), (86, .local), (46, .local), (82, .local), (25, .local), (14, .globalImplicit), (8, .globalImplicit), (16, .globalImplicit), (19, .globalImplicit), (13, .globalImplicit)]
noncomputable def sc21 : Scope := scp .function (kd21.map fun x => (nm x.1, x.2))
noncomputable def ag22 : List Arg := [⟨(nm 20), none, ⟨187,21,187,25⟩⟩, ⟨(nm 21), none, ⟨187,27,187,36⟩⟩, ⟨(nm 85), none, ⟨187,38,187,48⟩⟩, ⟨(nm 22), none, ⟨187,55,187,61⟩⟩, ⟨(nm 86), none, ⟨187,66,187,75⟩⟩]
noncomputable def dx22 : List Expr := [(.Constant .none 0 ⟨187,49,187,53⟩), (.Constant (.int 16) 0 ⟨187,62,187,64⟩), (.Constant (.bool false) 0 ⟨187,76,187,81⟩)]
noncomputable def b22 : Ss := (.cons (.ife (.cmp (.lv 21 ⟨188,11,188,20⟩) .eq (.cst (.int 0) 0 ⟨188,24,188,25⟩) ⟨188,11,188,25⟩) (.cons (.raise 18 ⟨189,18,189,35⟩ (.cst (.str 91) 0 ⟨189,36,189,66⟩) ⟨189,18,189,67⟩ ⟨189,12,189,67⟩) .nil) .nil ⟨188,8,189,67⟩) (.cons (.try (.cons (.asg (.nm 92 ⟨191,12,191,26⟩) (.sub (.attr (.lv 20 ⟨191,29,191,33⟩) 71 ⟨191,29,191,42⟩) (.lv 21 ⟨191,43,191,52⟩) ⟨191,29,191,53⟩) ⟨191,12,191,53⟩) .nil) (.cons 79 ⟨192,15,192,23⟩ (.cons (.raise 15 ⟨193,18,193,36⟩ (.bin .mod (.cst (.str 93) 0 ⟨193,37,193,60⟩) (.lv 21 ⟨193,63,193,72⟩) ⟨193,37,193,72⟩) ⟨193,18,193,73⟩ ⟨193,12,193,73⟩) .nil) ⟨192,8,193,73⟩ .nil) ⟨190,8,193,73⟩) (.cons (.ife (.lv 85 ⟨194,11,194,21⟩) (.cons (.ife (.cmp (.lv 85 ⟨195,15,195,25⟩) .eq (.lv 21 ⟨195,29,195,38⟩) ⟨195,15,195,38⟩) (.cons (.raise 13 ⟨196,22,196,34⟩ (.bin .mod (.cst (.str 94) 0 ⟨196,35,196,72⟩) (.lv 21 ⟨196,75,196,84⟩) ⟨196,35,196,84⟩) ⟨196,22,196,85⟩ ⟨196,16,196,85⟩) .nil) .nil ⟨195,12,196,85⟩) (.cons (.asg (.nm 62 ⟨197,12,197,22⟩) (.mcall (.lv 20 ⟨197,25,197,29⟩) 78 ⟨197,25,197,51⟩ (.cons (.lv 85 ⟨197,52,197,62⟩) .nil) .nil ⟨197,25,197,63⟩) ⟨197,12,197,63⟩) (.cons (.asg (.nm 95 ⟨198,12,198,17⟩) (.call (.gv 64 ⟨198,20,198,33⟩) (.cons (.lv 62 ⟨198,34,198,44⟩) (.cons (.lv 92 ⟨198,46,198,60⟩) .nil)) .nil ⟨198,20,198,61⟩) ⟨198,12,198,61⟩) .nil))) (.cons (.asg (.nm 62 ⟨200,12,200,22⟩) (.sub (.attr (.lv 20 ⟨200,25,200,29⟩) 71 ⟨200,25,200,38⟩) (.cst (.int 0) 0 ⟨200,39,200,40⟩) ⟨200,25,200,41⟩) ⟨200,12,200,41⟩) (.cons (.asg (.nm 95 ⟨201,12,201,17⟩) (.cst (.bool false) 0 ⟨201,20,201,25⟩) ⟨201,12,201,25⟩) .nil)) ⟨194,8,201,25⟩) (.cons (.asg (.attr (.lv 92 ⟨202,8,202,22⟩) 22 ⟨202,8,202,29⟩) (.lv 22 ⟨202,32,202,38⟩) ⟨202,8,202,38⟩) (.cons (.ife (.lv 95 ⟨203,11,203,16⟩) (.cons (.expr (.mcall (.attr (.lv 62 ⟨204,12,204,22⟩) 25 ⟨204,12,204,29⟩) 42 ⟨204,12,204,42⟩ (.cons (.lv 62 ⟨204,43,204,53⟩) .nil) .nil ⟨204,12,204,54⟩) ⟨204,12,204,54⟩) (.cons (.expr (.mcall (.attr (.lv 92 ⟨205,12,205,26⟩) 25 ⟨205,12,205,33⟩) 37 ⟨205,12,205,43⟩ (.cons (.lv 62 ⟨205,44,205,54⟩) .nil) .nil ⟨205,12,205,55⟩) ⟨205,12,205,55⟩) .nil)) .nil ⟨203,8,205,55⟩) (.cons (.expr (.mcall (.attr (.lv 92 ⟨206,8,206,22⟩) 25 ⟨206,8,206,29⟩) 42 ⟨206,8,206,42⟩ (.cons (.lv 92 ⟨206,43,206,57⟩) .nil) (.cons 41 (.cst (.bool false) 0 ⟨206,74,206,79⟩) ⟨206,59,206,79⟩ .nil) ⟨206,8,206,80⟩) ⟨206,8,206,80⟩) (.cons (.ife (.lv 86 ⟨207,11,207,20⟩) (.cons (.expr (.mcall (.lv 62 ⟨208,12,208,22⟩) 38 ⟨208,12,208,42⟩ (.cons (.lv 92 ⟨208,43,208,57⟩) .nil) .nil ⟨208,12,208,58⟩) ⟨208,12,208,58⟩) .nil) (.cons (.expr (.mcall (.lv 62 ⟨210,12,210,22⟩) 37 ⟨210,12,210,32⟩ (.cons (.lv 92 ⟨210,33,210,47⟩) .nil) .nil ⟨210,12,210,48⟩) ⟨210,12,210,48⟩) .nil) ⟨207,8,210,48⟩) .nil)))))))
noncomputable def kd22 : List (Nat × NameKind) := [(20, .local), (21, .local), (85, .local), (22, .local), (86, .local), (92, .local), (62, .local), (95, .local), (18, .globalImplicit), (79, .globalImplicit), (15, .globalImplicit), (13, .globalImplicit), (64, .globalImplicit)]
noncomputable def sc22 : Scope := scp .function (kd22.map fun x => (nm x.1, x.2))
noncomputable def ag23 : List Arg := [⟨(nm 20), none, ⟨212,22,212,26⟩⟩, ⟨(nm 21), none, ⟨212,28,212,37⟩⟩]
noncomputable def dx23 : List Expr := []
noncomputable def b23 : Ss := (.cons (.ife (.cmp (.lv 21 ⟨213,11,213,20⟩) .eq (.cst (.int 0) 0 ⟨213,24,213,25⟩) ⟨213,11,213,25⟩) (.cons (.raise 18 ⟨214,18,214,35⟩ (.cst (.str 97) 0 ⟨214,36,214,60⟩) ⟨214,18,214,61⟩ ⟨214,12,214,61⟩) .nil) .nil ⟨213,8,214,61⟩) (.cons (.try (.cons (.asg (.nm 36 ⟨216,12,216,17⟩) (.mcall (.attr (.lv 20 ⟨216,20,216,24⟩) 71 ⟨216,20,216,33⟩) 10 ⟨216,20,216,37⟩ (.cons (.lv 21 ⟨216,38,216,47⟩) .nil) .nil ⟨216,20,216,48⟩) ⟨216,12,216,48⟩) .nil) (.cons 79 ⟨217,15,217,23⟩ (.cons (.raise 15 ⟨218,18,218,36⟩ (.bin .mod (.cst (.str 93) 0 ⟨218,37,218,60⟩) (.lv 21 ⟨218,63,218,72⟩) ⟨218,37,218,72⟩) ⟨218,18,218,73⟩ ⟨218,12,218,73⟩) .nil) ⟨217,8,218,73⟩ .nil) ⟨215,8,218,73⟩) (.cons (.asg (.nm 25 ⟨219,8,219,14⟩) (.attr (.lv 36 ⟨219,17,219,22⟩) 25 ⟨219,17,219,29⟩) ⟨219,8,219,29⟩) (.cons (.expr (.mcall (.lv 25 ⟨220,8,220,14⟩) 42 ⟨220,8,220,27⟩ (.cons (.lv 36 ⟨220,28,220,33⟩) .nil) .nil ⟨220,8,220,34⟩) ⟨220,8,220,34⟩) .nil))))
noncomputable def kd23 : List (Nat × NameKind) := [(20, .local), (21, .local), (36, .local), (25, .local), (18, .globalImplicit), (79, .globalImplicit), (15, .globalImplicit)]
noncomputable def sc23 : Scope := scp .function (kd23.map fun x => (nm x.1, x.2))
noncomputable def ag24 : List Arg := [⟨(nm 20), none, ⟨222,14,222,18⟩⟩, ⟨(nm 21), none, ⟨222,20,222,29⟩⟩]
noncomputable def dx24 : List Expr := []
noncomputable def b24 : Ss := (.cons (.ife (.cmp (.lv 21 ⟨223,11,223,20⟩) .eq (.cst (.int 0) 0 ⟨223,24,223,25⟩) ⟨223,11,223,25⟩) (.cons (.raise 18 ⟨224,18,224,35⟩ (.cst (.str 98) 0 ⟨224,36,224,59⟩) ⟨224,18,224,60⟩ ⟨224,12,224,60⟩) .nil) .nil ⟨223,8,224,60⟩) (.cons (.try (.cons (.asg (.attr (.sub (.attr (.lv 20 ⟨226,12,226,16⟩) 71 ⟨226,12,226,25⟩) (.lv 21 ⟨226,26,226,35⟩) ⟨226,12,226,36⟩) 27 ⟨226,12,226,43⟩) (.cst (.bool false) 0 ⟨226,46,226,51⟩) ⟨226,12,226,51⟩) .nil) (.cons 79 ⟨227,15,227,23⟩ (.cons (.raise 15 ⟨228,18,228,36⟩ (.bin .mod (.cst (.str 93) 0 ⟨228,37,228,60⟩) (.lv 21 ⟨228,63,228,72⟩) ⟨228,37,228,72⟩) ⟨228,18,228,73⟩ ⟨228,12,228,73⟩) .nil) ⟨227,8,228,73⟩ .nil) ⟨225,8,228,73⟩) .nil))
noncomputable def kd24 : List (Nat × NameKind) := [(20, .local), (21, .local), (18, .globalImplicit), (79, .globalImplicit), (15, .globalImplicit)]
noncomputable def sc24 : Scope := scp .function (kd24.map fun x => (nm x.1, x.2))
noncomputable def ag25 : List Arg := [⟨(nm 20), none, ⟨230,16,230,20⟩⟩, ⟨(nm 21), none, ⟨230,22,230,31⟩⟩]
noncomputable def dx25 : List Expr := []
noncomputable def b25 : Ss := (.cons (.ife (.cmp (.lv 21 ⟨231,11,231,20⟩) .eq (.cst (.int 0) 0 ⟨231,24,231,25⟩) ⟨231,11,231,25⟩) (.cons (.raise 18 ⟨232,18,232,35⟩ (.cst (.str 100) 0 ⟨232,36,232,61⟩) ⟨232,18,232,62⟩ ⟨232,12,232,62⟩) .nil) .nil ⟨231,8,232,62⟩) (.cons (.try (.cons (.asg (.attr (.sub (.attr (.lv 20 ⟨234,12,234,16⟩) 71 ⟨234,12,234,25⟩) (.lv 21 ⟨234,26,234,35⟩) ⟨234,12,234,36⟩) 27 ⟨234,12,234,43⟩) (.cst (.bool true) 0 ⟨234,46,234,50⟩) ⟨234,12,234,50⟩) .nil) (.cons 79 ⟨235,15,235,23⟩ (.cons (.raise 15 ⟨236,18,236,36⟩ (.bin .mod (.cst (.str 93) 0 ⟨236,37,236,60⟩) (.lv 21 ⟨236,63,236,72⟩) ⟨236,37,236,72⟩) ⟨236,18,236,73⟩ ⟨236,12,236,73⟩) .nil) ⟨235,8,236,73⟩ .nil) ⟨233,8,236,73⟩) .nil))
noncomputable def kd25 : List (Nat × NameKind) := [(20, .local), (21, .local), (18, .globalImplicit), (79, .globalImplicit), (15, .globalImplicit)]
noncomputable def sc25 : Scope := scp .function (kd25.map fun x => (nm x.1, x.2))
noncomputable def ag26 : List Arg := [⟨(nm 20), none, ⟨238,17,238,21⟩⟩]
noncomputable def dx26 : List Expr := []
noncomputable def b26 : Ss := (.cons (.ret (.lv 20 ⟨239,15,239,19⟩) ⟨239,8,239,19⟩) .nil)
noncomputable def kd26 : List (Nat × NameKind) := [(20, .local)]
noncomputable def sc26 : Scope := scp .function (kd26.map fun x => (nm x.1, x.2))
noncomputable def ag27 : List Arg := [⟨(nm 20), none, ⟨241,17,241,21⟩⟩]
noncomputable def dx27 : List Expr := []
noncomputable def b27 : Ss := (.cons (.try (.cons (.ret (.mcall (.attr (.lv 20 ⟨243,19,243,23⟩) 70 ⟨243,19,243,36⟩) 48 ⟨243,19,243,45⟩ .nil .nil ⟨243,19,243,47⟩) ⟨243,12,243,47⟩) .nil) (.cons 52 ⟨244,15,244,25⟩ (.cons (.raise 12 ⟨245,18,245,31⟩ (.cst (.str 103) 0 ⟨245,32,245,67⟩) ⟨245,18,245,68⟩ ⟨245,12,245,68⟩) .nil) ⟨244,8,245,68⟩ .nil) ⟨242,8,245,68⟩) .nil)
noncomputable def kd27 : List (Nat × NameKind) := [(20, .local), (52, .globalImplicit), (12, .globalImplicit)]
noncomputable def sc27 : Scope := scp .function (kd27.map fun x => (nm x.1, x.2))
noncomputable def ag28 : List Arg := [⟨(nm 20), none, ⟨247,13,247,17⟩⟩]
noncomputable def dx28 : List Expr := []
noncomputable def b28 : Ss := (.cons (.ret (.mcall (.lv 20 ⟨248,15,248,19⟩) 102 ⟨248,15,248,28⟩ .nil .nil ⟨248,15,248,30⟩) ⟨248,8,248,30⟩) .nil)
noncomputable def kd28 : List (Nat × NameKind) := [(20, .local)]
noncomputable def sc28 : Scope := scp .function (kd28.map fun x => (nm x.1, x.2))
noncomputable def ag29 : List Arg := [⟨(nm 105), none, ⟨250,12,250,16⟩⟩, ⟨(nm 106), none, ⟨250,18,250,22⟩⟩, ⟨(nm 107), none, ⟨250,24,250,25⟩⟩, ⟨(nm 108), none, ⟨250,27,250,28⟩⟩, ⟨(nm 22), none, ⟨250,30,250,36⟩⟩, ⟨(nm 109), none, ⟨250,38,250,43⟩⟩]
noncomputable def dx29 : List Expr := []
noncomputable def b29 : Ss := (.cons (.try (.cons (.ife (.cmp (.lv 106 ⟨252,11,252,15⟩) .lt (.cst (.int 3) 0 ⟨252,18,252,19⟩) ⟨252,11,252,19⟩) (.cons (.ret (.mcall (.lv 105 ⟨253,19,253,23⟩) 80 ⟨253,19,253,37⟩ (.cons (.lv 107 ⟨253,38,253,39⟩) (.cons (.lv 108 ⟨253,41,253,42⟩) (.cons (.lv 22 ⟨253,44,253,50⟩) (.cons (.lv 109 ⟨253,52,253,57⟩) .nil)))) .nil ⟨253,19,253,58⟩) ⟨253,12,253,58⟩) .nil) .nil ⟨252,8,253,58⟩) (.cons (.ife (.cmp (.lv 106 ⟨254,11,254,15⟩) .eq (.cst (.int 3) 0 ⟨254,19,254,20⟩) ⟨254,11,254,20⟩) (.cons (.ret (.mcall (.lv 105 ⟨255,19,255,23⟩) 90 ⟨255,19,255,36⟩ (.cons (.lv 107 ⟨255,37,255,38⟩) (.cons (.lv 108 ⟨255,40,255,41⟩) (.cons (.lv 22 ⟨255,43,255,49⟩) (.cons (.lv 109 ⟨255,51,255,56⟩) .nil)))) .nil ⟨255,19,255,57⟩) ⟨255,12,255,57⟩) .nil) .nil ⟨254,8,255,57⟩) (.cons (.ife (.cmp (.lv 106 ⟨256,11,256,15⟩) .lt (.cst (.int 6) 0 ⟨256,18,256,19⟩) ⟨256,11,256,19⟩) (.cons (.ret (.mcall (.lv 105 ⟨257,19,257,23⟩) 81 ⟨257,19,257,29⟩ (.cons (.lv 107 ⟨257,30,257,31⟩) .nil) .nil ⟨257,19,257,32⟩) ⟨257,12,257,32⟩) .nil) .nil ⟨256,8,257,32⟩) (.cons (.ife (.cmp (.lv 106 ⟨258,11,258,15⟩) .eq (.cst (.int 6) 0 ⟨258,19,258,20⟩) ⟨258,11,258,20⟩) (.cons (.ret (.mcall (.lv 105 ⟨259,19,259,23⟩) 99 ⟨259,19,259,31⟩ (.cons (.lv 107 ⟨259,32,259,33⟩) .nil) .nil ⟨259,19,259,34⟩) ⟨259,12,259,34⟩) .nil) .nil ⟨258,8,259,34⟩) (.cons (.ret (.mcall (.lv 105 ⟨260,15,260,19⟩) 96 ⟨260,15,260,33⟩ (.cons (.lv 107 ⟨260,34,260,35⟩) .nil) .nil ⟨260,15,260,36⟩) ⟨260,8,260,36⟩) .nil))))) (.cons 14 ⟨261,11,261,31⟩ (.cons (.ret (.cst (.str 111) 0 ⟨262,15,262,26⟩) ⟨262,8,262,26⟩) .nil) ⟨261,4,262,26⟩ (.cons 15 ⟨263,11,263,29⟩ (.cons (.ret (.cst (.str 112) 0 ⟨264,15,264,24⟩) ⟨264,8,264,24⟩) .nil) ⟨263,4,264,24⟩ (.cons 17 ⟨265,11,265,25⟩ (.cons (.ret (.cst (.str 22) 0 ⟨266,15,266,23⟩) ⟨266,8,266,23⟩) .nil) ⟨265,4,266,23⟩ .nil))) ⟨251,4,266,23⟩) .nil)
noncomputable def kd29 : List (Nat × NameKind) := [(105, .local), (106, .local), (107, .local), (108, .local), (22, .local), (109, .local), (14, .globalImplicit), (15, .globalImplicit), (17, .globalImplicit)]
noncomputable def sc29 : Scope := scp .function (kd29.map fun x => (nm x.1, x.2))
noncomputable def ag30 : List Arg := [⟨(nm 113), none, ⟨267,8,267,14⟩⟩]
noncomputable def dx30 : List Expr := []
noncomputable def b30 : Ss := (.cons (.asg (.nm 115 ⟨268,4,268,9⟩) (.ife (.lv 113 ⟨268,30,268,36⟩) (.call (.gv 116 ⟨268,12,268,15⟩) (.cons (.sub (.lv 113 ⟨268,16,268,22⟩) (.cst (.int 0) 0 ⟨268,23,268,24⟩) ⟨268,16,268,25⟩) .nil) .nil ⟨268,12,268,26⟩) (.cst (.int 0) 0 ⟨268,42,268,43⟩) ⟨268,12,268,43⟩) ⟨268,4,268,43⟩) (.cons (.asg (.nm 117 ⟨269,4,269,9⟩) (.call (.gv 68 ⟨269,12,269,24⟩) .nil .nil ⟨269,12,269,26⟩) ⟨269,4,269,26⟩) (.cons (.asg (.nm 118 ⟨270,4,270,7⟩) (.call (.gv 68 ⟨270,10,270,22⟩) .nil .nil ⟨270,10,270,24⟩) ⟨270,4,270,24⟩) (.cons (.asg (.nm 119 ⟨271,4,271,7⟩) (.dct0 ⟨271,10,271,12⟩) ⟨271,4,271,12⟩) (.cons (.asg (.nm 120 ⟨272,4,272,8⟩) (.dct0 ⟨272,11,272,13⟩) ⟨272,4,272,13⟩) (.cons (.for (.nm 121 ⟨273,8,273,9⟩) (.tup (.cons (.cst (.int 3) 0 ⟨273,14,273,15⟩) (.cons (.cst (.int 5) 0 ⟨273,17,273,18⟩) (.cons (.cst (.int 7) 0 ⟨273,20,273,21⟩) .nil))) 0 ⟨273,13,273,22⟩) (.cons (.asg (.nm 22 ⟨274,8,274,14⟩) (.bin .add (.cst (.int 1) 0 ⟨274,17,274,18⟩) (.bin .mod (.bin .fdiv (.lv 115 ⟨274,21,274,26⟩) (.lv 121 ⟨274,30,274,31⟩) ⟨274,21,274,31⟩) (.cst (.int 256) 0 ⟨274,34,274,37⟩) ⟨274,21,274,37⟩) ⟨274,17,274,37⟩) ⟨274,8,274,37⟩) (.cons (.expr (.mcall (.lv 117 ⟨275,8,275,13⟩) 80 ⟨275,8,275,27⟩ (.cons (.lv 121 ⟨275,28,275,29⟩) (.cons (.cst (.int 0) 0 ⟨275,31,275,32⟩) (.cons (.lv 22 ⟨275,34,275,40⟩) .nil))) .nil ⟨275,8,275,41⟩) ⟨275,8,275,41⟩) (.cons (.expr (.mcall (.lv 117 ⟨276,8,276,13⟩) 81 ⟨276,8,276,19⟩ (.cons (.lv 121 ⟨276,20,276,21⟩) .nil) .nil ⟨276,8,276,22⟩) ⟨276,8,276,22⟩) (.cons (.expr (.mcall (.lv 118 ⟨277,8,277,11⟩) 80 ⟨277,8,277,25⟩ (.cons (.lv 121 ⟨277,26,277,27⟩) (.cons (.cst (.int 0) 0 ⟨277,29,277,30⟩) (.cons (.lv 22 ⟨277,32,277,38⟩) .nil))) .nil ⟨277,8,277,39⟩) ⟨277,8,277,39⟩) (.cons (.asg (.sub (.lv 119 ⟨278,8,278,11⟩) (.lv 121 ⟨278,12,278,13⟩) ⟨278,8,278,14⟩) (.call (.gv 68 ⟨278,17,278,29⟩) .nil .nil ⟨278,17,278,31⟩) ⟨278,8,278,31⟩) (.cons (.expr (.mcall (.lv 117 ⟨279,8,279,13⟩) 80 ⟨279,8,279,27⟩ (.cons (.bin .add (.lv 121 ⟨279,28,279,29⟩) (.cst (.int 6) 0 ⟨279,32,279,33⟩) ⟨279,28,279,33⟩) (.cons (.lv 121 ⟨279,35,279,36⟩) .nil)) .nil ⟨279,8,279,37⟩) ⟨279,8,279,37⟩) (.cons (.expr (.mcall (.sub (.lv 119 ⟨280,8,280,11⟩) (.lv 121 ⟨280,12,280,13⟩) ⟨280,8,280,14⟩) 80 ⟨280,8,280,28⟩ (.cons (.bin .add (.lv 121 ⟨280,29,280,30⟩) (.cst (.int 6) 0 ⟨280,33,280,34⟩) ⟨280,29,280,34⟩) .nil) .nil ⟨280,8,280,35⟩) ⟨280,8,280,35⟩) (.cons (.asg (.sub (.lv 120 ⟨281,8,281,12⟩) (.lv 121 ⟨281,13,281,14⟩) ⟨281,8,281,15⟩) (.lst (.cons (.lv 121 ⟨281,19,281,20⟩) (.cons (.bin .add (.lv 121 ⟨281,22,281,23⟩) (.cst (.int 6) 0 ⟨281,26,281,27⟩) ⟨281,22,281,27⟩) .nil)) ⟨281,18,281,28⟩) ⟨281,8,281,28⟩) .nil)))))))) ⟨273,4,281,28⟩) (.cons (.for (.nm 122 ⟨282,8,282,14⟩) (.bin .add (.upto (.lv 113 ⟨282,18,282,24⟩) (.cst (.int 14) 0 ⟨282,26,282,28⟩) ⟨282,18,282,29⟩ ⟨282,25,282,28⟩) (.bin .mul (.lst (.cons (.cst (.int 12) 0 ⟨282,33,282,35⟩) .nil) ⟨282,32,282,36⟩) (.cst (.int 4) 0 ⟨282,39,282,40⟩) ⟨282,32,282,40⟩) ⟨282,18,282,40⟩) (.cons (.asg (.nm 123 ⟨283,8,283,9⟩) (.call (.gv 116 ⟨283,12,283,15⟩) (.cons (.lv 122 ⟨283,16,283,22⟩) .nil) .nil ⟨283,12,283,23⟩) ⟨283,8,283,23⟩) (.cons (.asg (.nm 106 ⟨284,8,284,12⟩) (.bin .mod (.lv 123 ⟨284,15,284,16⟩) (.cst (.int 13) 0 ⟨284,19,284,21⟩) ⟨284,15,284,21⟩) ⟨284,8,284,21⟩) (.cons (.asg (.nm 107 ⟨285,8,285,9⟩) (.bin .add (.cst (.int 21) 0 ⟨285,12,285,14⟩) (.bin .mul (.cst (.int 2) 0 ⟨285,17,285,18⟩) (.bin .mod (.lv 123 ⟨285,22,285,23⟩) (.cst (.int 9) 0 ⟨285,26,285,27⟩) ⟨285,22,285,27⟩) ⟨285,17,285,28⟩) ⟨285,12,285,28⟩) ⟨285,8,285,28⟩) (.cons (.asg (.nm 121 ⟨286,8,286,9⟩) (.bin .add (.cst (.int 3) 0 ⟨286,12,286,13⟩) (.bin .mul (.cst (.int 2) 0 ⟨286,16,286,17⟩) (.bin .mod (.lv 123 ⟨286,21,286,22⟩) (.cst (.int 3) 0 ⟨286,25,286,26⟩) ⟨286,21,286,26⟩) ⟨286,16,286,27⟩) ⟨286,12,286,27⟩) ⟨286,8,286,27⟩) (.cons (.asg (.nm 108 ⟨287,8,287,9⟩) (.ife (.cmp (.lv 106 ⟨287,17,287,21⟩) .eq (.cst (.int 3) 0 ⟨287,25,287,26⟩) ⟨287,17,287,26⟩) (.lv 121 ⟨287,12,287,13⟩) (.sub (.sub (.lv 120 ⟨287,32,287,36⟩) (.lv 121 ⟨287,37,287,38⟩) ⟨287,32,287,39⟩) (.bin .mod (.bin .fdiv (.lv 123 ⟨287,40,287,41⟩) (.cst (.int 9) 0 ⟨287,45,287,46⟩) ⟨287,40,287,46⟩) (.call (.gv 8 ⟨287,49,287,52⟩) (.cons (.sub (.lv 120 ⟨287,53,287,57⟩) (.lv 121 ⟨287,58,287,59⟩) ⟨287,53,287,60⟩) .nil) .nil ⟨287,49,287,61⟩) ⟨287,40,287,61⟩) ⟨287,32,287,62⟩) ⟨287,12,287,62⟩) ⟨287,8,287,62⟩) (.cons (.asg (.nm 109 ⟨288,8,288,13⟩) (.cmp (.bin .mod (.lv 123 ⟨288,16,288,17⟩) (.cst (.int 5) 0 ⟨288,20,288,21⟩) ⟨288,16,288,21⟩) .eq (.cst (.int 0) 0 ⟨288,25,288,26⟩) ⟨288,16,288,26⟩) ⟨288,8,288,26⟩) (.cons (.asg (.nm 22 ⟨289,8,289,14⟩) (.bin .mod (.bin .add (.bin .add (.bin .fdiv (.lv 123 ⟨289,18,289,19⟩) (.cst (.int 585) 0 ⟨289,23,289,26⟩) ⟨289,18,289,26⟩) (.lv 123 ⟨289,29,289,30⟩) ⟨289,18,289,30⟩) (.cst (.int 16) 0 ⟨289,33,289,35⟩) ⟨289,18,289,35⟩) (.cst (.int 259) 0 ⟨289,39,289,42⟩) ⟨289,17,289,42⟩) ⟨289,8,289,42⟩) (.cons (.ife (.cmp (.lv 106 ⟨290,11,290,15⟩) .gt (.cst (.int 9) 0 ⟨290,18,290,19⟩) ⟨290,11,290,19⟩) (.cons (.for (.nm 124 ⟨291,16,291,20⟩) (.call (.gv 66 ⟨291,24,291,29⟩) (.cons (.cst (.int 2) 0 ⟨291,30,291,31⟩) .nil) .nil ⟨291,24,291,32⟩) (.cons (.asg (.nm 125 ⟨292,16,292,20⟩) (.mcall (.lv 118 ⟨292,23,292,26⟩) 104 ⟨292,23,292,31⟩ .nil .nil ⟨292,23,292,33⟩) ⟨292,16,292,33⟩) (.cons (.ife (.cmp (.lv 125 ⟨293,19,293,23⟩) .isin (.lv 119 ⟨293,27,293,30⟩) ⟨293,19,293,30⟩) (.cons (.asg (.nm 125 ⟨294,20,294,24⟩) (.mcall (.sub (.lv 119 ⟨294,27,294,30⟩) (.lv 125 ⟨294,31,294,35⟩) ⟨294,27,294,36⟩) 104 ⟨294,27,294,41⟩ .nil .nil ⟨294,27,294,43⟩) ⟨294,20,294,43⟩) .nil) .nil ⟨293,16,294,43⟩) (.cons (.ife (.cmp (.mcall (.lv 117 ⟨295,19,295,24⟩) 104 ⟨295,19,295,29⟩ .nil .nil ⟨295,19,295,31⟩) .ne (.lv 125 ⟨295,35,295,39⟩) ⟨295,19,295,39⟩) (.cons (.ret (.cst (.bool false) 0 ⟨296,27,296,32⟩) ⟨296,20,296,32⟩) .nil) .nil ⟨295,16,296,32⟩) .nil))) ⟨291,12,296,32⟩) .nil) (.cons (.ife (.cmp (.lv 106 ⟨297,13,297,17⟩) .eq (.cst (.int 9) 0 ⟨297,21,297,22⟩) ⟨297,13,297,22⟩) (.cons (.ife (.cmp (.call (.gv 110 ⟨298,15,298,22⟩) (.cons (.lv 117 ⟨298,23,298,28⟩) (.cons (.cst (.int 3) 0 ⟨298,30,298,31⟩) (.cons (.lv 121 ⟨298,33,298,34⟩) (.cons (.cst (.int 0) 0 ⟨298,36,298,37⟩) (.cons (.lv 22 ⟨298,39,298,45⟩) (.cons (.cst (.bool false) 0 ⟨298,47,298,52⟩) .nil)))))) .nil ⟨298,15,298,53⟩) .ne (.call (.gv 110 ⟨298,57,298,64⟩) (.cons (.lv 118 ⟨298,65,298,68⟩) (.cons (.cst (.int 3) 0 ⟨298,70,298,71⟩) (.cons (.lv 121 ⟨298,73,298,74⟩) (.cons (.cst (.int 0) 0 ⟨298,76,298,77⟩) (.cons (.lv 22 ⟨298,79,298,85⟩) (.cons (.cst (.bool false) 0 ⟨298,87,298,92⟩) .nil)))))) .nil ⟨298,57,298,93⟩) ⟨298,15,298,93⟩) (.cons (.ret (.cst (.bool false) 0 ⟨299,23,299,28⟩) ⟨299,16,299,28⟩) .nil) .nil ⟨298,12,299,28⟩) .nil) (.cons (.ife (.cmp (.lv 106 ⟨300,13,300,17⟩) .eq (.cst (.int 8) 0 ⟨300,21,300,22⟩) ⟨300,13,300,22⟩) (.cons (.asg (.nm 126 ⟨301,12,301,17⟩) (.sub (.lst (.cons (.cst (.int 0) 0 ⟨301,21,301,22⟩) (.cons (.cst (.int 3) 0 ⟨301,24,301,25⟩) (.cons (.cst (.int 4) 0 ⟨301,27,301,28⟩) (.cons (.cst (.int 6) 0 ⟨301,30,301,31⟩) (.cons (.cst (.int 7) 0 ⟨301,33,301,34⟩) .nil))))) ⟨301,20,301,35⟩) (.bin .mod (.bin .fdiv (.lv 123 ⟨301,36,301,37⟩) (.cst (.int 13) 0 ⟨301,41,301,43⟩) ⟨301,36,301,43⟩) (.cst (.int 5) 0 ⟨301,46,301,47⟩) ⟨301,36,301,47⟩) ⟨301,20,301,48⟩) ⟨301,12,301,48⟩) (.cons (.asg (.nm 127 ⟨302,12,302,18⟩) (.bin .add (.cst (.int 41) 0 ⟨302,21,302,23⟩) (.bin .mul (.cst (.int 2) 0 ⟨302,26,302,27⟩) (.bin .mod (.bin .fdiv (.lv 123 ⟨302,31,302,32⟩) (.cst (.int 7) 0 ⟨302,36,302,37⟩) ⟨302,31,302,37⟩) (.cst (.int 3) 0 ⟨302,40,302,41⟩) ⟨302,31,302,41⟩) ⟨302,26,302,42⟩) ⟨302,21,302,42⟩) ⟨302,12,302,42⟩) (.cons (.ife (.cmp (.call (.gv 110 ⟨303,15,303,22⟩) (.cons (.lv 117 ⟨303,23,303,28⟩) (.cons (.lv 126 ⟨303,30,303,35⟩) (.cons (.lv 127 ⟨303,37,303,43⟩) (.cons (.cst .none 0 ⟨303,45,303,49⟩) (.cons (.lv 22 ⟨303,51,303,57⟩) (.cons (.cst (.bool false) 0 ⟨303,59,303,64⟩) .nil)))))) .nil ⟨303,15,303,65⟩) .ne (.call (.gv 110 ⟨303,69,303,76⟩) (.cons (.lv 118 ⟨303,77,303,80⟩) (.cons (.lv 126 ⟨303,82,303,87⟩) (.cons (.lv 127 ⟨303,89,303,95⟩) (.cons (.cst .none 0 ⟨303,97,303,101⟩) (.cons (.lv 22 ⟨303,103,303,109⟩) (.cons (.cst (.bool false) 0 ⟨303,111,303,116⟩) .nil)))))) .nil ⟨303,69,303,117⟩) ⟨303,15,303,117⟩) (.cons (.ret (.cst (.bool false) 0 ⟨304,23,304,28⟩) ⟨304,16,304,28⟩) .nil) .nil ⟨303,12,304,28⟩) .nil))) (.cons (.asg (.nm 125 ⟨306,12,306,16⟩) (.call (.gv 110 ⟨306,19,306,26⟩) (.cons (.lv 117 ⟨306,27,306,32⟩) (.cons (.lv 106 ⟨306,34,306,38⟩) (.cons (.lv 107 ⟨306,40,306,41⟩) (.cons (.lv 108 ⟨306,43,306,44⟩) (.cons (.lv 22 ⟨306,46,306,52⟩) (.cons (.lv 109 ⟨306,54,306,59⟩) .nil)))))) .nil ⟨306,19,306,60⟩) ⟨306,12,306,60⟩) (.cons (.ife (.cmp (.call (.gv 110 ⟨307,15,307,22⟩) (.cons (.sub (.lv 119 ⟨307,23,307,26⟩) (.lv 121 ⟨307,27,307,28⟩) ⟨307,23,307,29⟩) (.cons (.lv 106 ⟨307,31,307,35⟩) (.cons (.lv 107 ⟨307,37,307,38⟩) (.cons (.ife (.cmp (.lv 108 ⟨307,45,307,46⟩) .eq (.lv 121 ⟨307,50,307,51⟩) ⟨307,45,307,51⟩) (.cst (.int 0) 0 ⟨307,40,307,41⟩) (.lv 108 ⟨307,57,307,58⟩) ⟨307,40,307,58⟩) (.cons (.lv 22 ⟨307,60,307,66⟩) (.cons (.lv 109 ⟨307,68,307,73⟩) .nil)))))) .nil ⟨307,15,307,74⟩) .ne (.lv 125 ⟨307,78,307,82⟩) ⟨307,15,307,82⟩) (.cons (.ret (.cst (.bool false) 0 ⟨308,23,308,28⟩) ⟨308,16,308,28⟩) .nil) .nil ⟨307,12,308,28⟩) (.cons (.ife (.band (.cons (.cmp (.lv 125 ⟨309,15,309,19⟩) .is (.cst .none 0 ⟨309,23,309,27⟩) ⟨309,15,309,27⟩) (.cons (.cmp (.lv 106 ⟨309,32,309,36⟩) .lt (.cst (.int 3) 0 ⟨309,39,309,40⟩) ⟨309,32,309,40⟩) .nil)) ⟨309,15,309,40⟩) (.cons (.expr (.mcall (.sub (.lv 120 ⟨310,16,310,20⟩) (.lv 121 ⟨310,21,310,22⟩) ⟨310,16,310,23⟩) 6 ⟨310,16,310,30⟩ (.cons (.lv 107 ⟨310,31,310,32⟩) .nil) .nil ⟨310,16,310,33⟩) ⟨310,16,310,33⟩) .nil) .nil ⟨309,12,310,33⟩) (.cons (.ife (.band (.cons (.cmp (.lv 125 ⟨311,15,311,19⟩) .is (.cst .none 0 ⟨311,23,311,27⟩) ⟨311,15,311,27⟩) (.cons (.cmp (.lv 106 ⟨311,32,311,36⟩) .eq (.cst (.int 7) 0 ⟨311,40,311,41⟩) ⟨311,32,311,41⟩) .nil)) ⟨311,15,311,41⟩) (.cons (.expr (.mcall (.sub (.lv 120 ⟨312,16,312,20⟩) (.lv 121 ⟨312,21,312,22⟩) ⟨312,16,312,23⟩) 43 ⟨312,16,312,30⟩ (.cons (.lv 107 ⟨312,31,312,32⟩) .nil) .nil ⟨312,16,312,33⟩) ⟨312,16,312,33⟩) .nil) .nil ⟨311,12,312,33⟩) .nil)))) ⟨300,8,312,33⟩) .nil) ⟨297,8,312,33⟩) .nil) ⟨290,8,312,33⟩) .nil)))))))) ⟨282,4,312,33⟩) (.cons (.ret (.cst (.bool true) 0 ⟨313,11,313,15⟩) ⟨313,4,313,15⟩) .nil))))))))
noncomputable def kd30 : List (Nat × NameKind) := [(113, .local), (115, .local), (117, .local), (118, .local), (119, .local), (120, .local), (121, .local), (22, .local), (122, .local), (123, .local), (106, .local), (107, .local), (108, .local), (109, .local), (124, .local), (125, .local), (126, .local), (127, .local), (116, .globalImplicit), (68, .globalImplicit), (8, .globalImplicit), (66, .globalImplicit), (110, .globalImplicit)]
noncomputable def sc30 : Scope := scp .function (kd30.map fun x => (nm x.1, x.2))
noncomputable def fnTab : List Fn := [⟨[0, 1], [], b0⟩, ⟨[3, 4], [], b1⟩, ⟨[3], [], b2⟩, ⟨[20, 21, 22], [(22, (.int 16))], b3⟩, ⟨[20], [], b4⟩, ⟨[20, 31], [], b5⟩, ⟨[20, 36], [], b6⟩, ⟨[20, 36], [], b7⟩, ⟨[20, 36, 41], [(41, (.bool true))], b8⟩, ⟨[20], [], b9⟩, ⟨[20], [], b10⟩, ⟨[20, 1], [], b11⟩, ⟨[20, 1], [], b12⟩, ⟨[20, 1], [], b13⟩, ⟨[20, 1], [], b14⟩, ⟨[20, 1], [], b15⟩, ⟨[20, 1], [], b16⟩, ⟨[62, 63], [], b17⟩, ⟨[20, 69], [(69, (.int 1000))], b18⟩, ⟨[20, 77], [], b19⟩, ⟨[20, 82, 83], [], b20⟩, ⟨[20, 21, 85, 22, 86], [(85, .none), (22, (.int 16)), (86, (.bool false))], b21⟩, ⟨[20, 21, 85, 22, 86], [(85, .none), (22, (.int 16)), (86, (.bool false))], b22⟩, ⟨[20, 21], [], b23⟩, ⟨[20, 21], [], b24⟩, ⟨[20, 21], [], b25⟩, ⟨[20], [], b26⟩, ⟨[20], [], b27⟩, ⟨[20], [], b28⟩, ⟨[105, 106, 107, 108, 22, 109], [], b29⟩, ⟨[113], [], b30⟩]
noncomputable def faTab : List Addr := [21, 28, 35, 147, 154, 163, 171, 178, 186, 193, 200, 207, 214, 221, 228, 235, 242, 256, 271, 278, 285, 293, 301, 308, 315, 322, 329, 336, 343, 357, 364]
noncomputable def fd0 : FuncData := fnOf (nm 2) (nm 2) (agl ag0 dx0) (b0.dec nm scs) sc0 .none .none .none (.str (zs [112,114,105,111,114,105,116,121,46,112,114,105,111,114,105,116,121]) 187) none (.ref 20) .none
noncomputable def fd1 : FuncData := fnOf (nm 5) (nm 5) (agl ag1 dx1) (b1.dec nm scs) sc1 .none .none .none (.str (zs [112,114,105,111,114,105,116,121,46,112,114,105,111,114,105,116,121]) 187) none (.ref 27) .none
noncomputable def fd2 : FuncData := fnOf (nm 9) (nm 9) (agl ag2 dx2) (b2.dec nm scs) sc2 .none .none .none (.str (zs [112,114,105,111,114,105,116,121,46,112,114,105,111,114,105,116,121]) 187) none (.ref 34) .none
noncomputable def fd3 : FuncData := fnOf (nm 23) (zs [83,116,114,101,97,109,46,95,95,105,110,105,116,95,95]) (agl ag3 dx3) (b3.dec nm scs) sc3 (.ref 140) .none .none (.str (zs [112,114,105,111,114,105,116,121,46,112,114,105,111,114,105,116,121]) 187) none (.ref 146) .none
noncomputable def fd4 : FuncData := fnOf (nm 22) (zs [83,116,114,101,97,109,46,119,101,105,103,104,116]) (agl ag4 dx4) (b4.dec nm scs) sc4 .none .none .none (.str (zs [112,114,105,111,114,105,116,121,46,112,114,105,111,114,105,116,121]) 187) none (.ref 153) .none
noncomputable def fd5 : FuncData := fnOf (nm 22) (zs [83,116,114,101,97,109,46,119,101,105,103,104,116]) (agl ag5 dx5) (b5.dec nm scs) sc5 .none .none .none (.str (zs [112,114,105,111,114,105,116,121,46,112,114,105,111,114,105,116,121]) 187) none (.ref 162) .none
noncomputable def fd6 : FuncData := fnOf (nm 37) (zs [83,116,114,101,97,109,46,97,100,100,95,99,104,105,108,100]) (agl ag6 dx6) (b6.dec nm scs) sc6 .none .none .none (.str (zs [112,114,105,111,114,105,116,121,46,112,114,105,111,114,105,116,121]) 187) none (.ref 170) .none
noncomputable def fd7 : FuncData := fnOf (nm 38) (zs [83,116,114,101,97,109,46,97,100,100,95,99,104,105,108,100,95,101,120,99,108,117,115,105,118,101]) (agl ag7 dx7) (b7.dec nm scs) sc7 .none .none .none (.str (zs [112,114,105,111,114,105,116,121,46,112,114,105,111,114,105,116,121]) 187) none (.ref 177) .none
noncomputable def fd8 : FuncData := fnOf (nm 42) (zs [83,116,114,101,97,109,46,114,101,109,111,118,101,95,99,104,105,108,100]) (agl ag8 dx8) (b8.dec nm scs) sc8 (.ref 179) .none .none (.str (zs [112,114,105,111,114,105,116,121,46,112,114,105,111,114,105,116,121]) 187) none (.ref 185) .none
noncomputable def fd9 : FuncData := fnOf (nm 48) (zs [83,116,114,101,97,109,46,115,99,104,101,100,117,108,101]) (agl ag9 dx9) (b9.dec nm scs) sc9 .none .none .none (.str (zs [112,114,105,111,114,105,116,121,46,112,114,105,111,114,105,116,121]) 187) none (.ref 192) .none
noncomputable def fd10 : FuncData := fnOf (nm 53) (zs [83,116,114,101,97,109,46,95,95,114,101,112,114,95,95]) (agl ag10 dx10) (b10.dec nm scs) sc10 .none .none .none (.str (zs [112,114,105,111,114,105,116,121,46,112,114,105,111,114,105,116,121]) 187) none (.ref 199) .none
noncomputable def fd11 : FuncData := fnOf (nm 55) (zs [83,116,114,101,97,109,46,95,95,101,113,95,95]) (agl ag11 dx11) (b11.dec nm scs) sc11 .none .none .none (.str (zs [112,114,105,111,114,105,116,121,46,112,114,105,111,114,105,116,121]) 187) none (.ref 206) .none
noncomputable def fd12 : FuncData := fnOf (nm 56) (zs [83,116,114,101,97,109,46,95,95,110,101,95,95]) (agl ag12 dx12) (b12.dec nm scs) sc12 .none .none .none (.str (zs [112,114,105,111,114,105,116,121,46,112,114,105,111,114,105,116,121]) 187) none (.ref 213) .none
noncomputable def fd13 : FuncData := fnOf (nm 57) (zs [83,116,114,101,97,109,46,95,95,108,116,95,95]) (agl ag13 dx13) (b13.dec nm scs) sc13 .none .none .none (.str (zs [112,114,105,111,114,105,116,121,46,112,114,105,111,114,105,116,121]) 187) none (.ref 220) .none
noncomputable def fd14 : FuncData := fnOf (nm 59) (zs [83,116,114,101,97,109,46,95,95,108,101,95,95]) (agl ag14 dx14) (b14.dec nm scs) sc14 .none .none .none (.str (zs [112,114,105,111,114,105,116,121,46,112,114,105,111,114,105,116,121]) 187) none (.ref 227) .none
noncomputable def fd15 : FuncData := fnOf (nm 60) (zs [83,116,114,101,97,109,46,95,95,103,116,95,95]) (agl ag15 dx15) (b15.dec nm scs) sc15 .none .none .none (.str (zs [112,114,105,111,114,105,116,121,46,112,114,105,111,114,105,116,121]) 187) none (.ref 234) .none
noncomputable def fd16 : FuncData := fnOf (nm 61) (zs [83,116,114,101,97,109,46,95,95,103,101,95,95]) (agl ag16 dx16) (b16.dec nm scs) sc16 .none .none .none (.str (zs [112,114,105,111,114,105,116,121,46,112,114,105,111,114,105,116,121]) 187) none (.ref 241) .none
noncomputable def fd17 : FuncData := fnOf (nm 64) (nm 64) (agl ag17 dx17) (b17.dec nm scs) sc17 .none .none .none (.str (zs [112,114,105,111,114,105,116,121,46,112,114,105,111,114,105,116,121]) 187) none (.ref 255) .none
noncomputable def fd18 : FuncData := fnOf (nm 23) (zs [80,114,105,111,114,105,116,121,84,114,101,101,46,95,95,105,110,105,116,95,95]) (agl ag18 dx18) (b18.dec nm scs) sc18 (.ref 264) .none .none (.str (zs [112,114,105,111,114,105,116,121,46,112,114,105,111,114,105,116,121]) 187) none (.ref 270) .none
noncomputable def fd19 : FuncData := fnOf (nm 78) (zs [80,114,105,111,114,105,116,121,84,114,101,101,46,95,103,101,116,95,111,114,95,105,110,115,101,114,116,95,112,97,114,101,110,116]) (agl ag19 dx19) (b19.dec nm scs) sc19 .none .none .none (.str (zs [112,114,105,111,114,105,116,121,46,112,114,105,111,114,105,116,121]) 187) none (.ref 277) .none
noncomputable def fd20 : FuncData := fnOf (nm 84) (zs [80,114,105,111,114,105,116,121,84,114,101,101,46,95,101,120,99,108,117,115,105,118,101,95,105,110,115,101,114,116]) (agl ag20 dx20) (b20.dec nm scs) sc20 .none .none .none (.str (zs [112,114,105,111,114,105,116,121,46,112,114,105,111,114,105,116,121]) 187) none (.ref 284) .none
noncomputable def fd21 : FuncData := fnOf (nm 80) (zs [80,114,105,111,114,105,116,121,84,114,101,101,46,105,110,115,101,114,116,95,115,116,114,101,97,109]) (agl ag21 dx21) (b21.dec nm scs) sc21 (.ref 286) .none .none (.str (zs [112,114,105,111,114,105,116,121,46,112,114,105,111,114,105,116,121]) 187) none (.ref 292) .none
noncomputable def fd22 : FuncData := fnOf (nm 90) (zs [80,114,105,111,114,105,116,121,84,114,101,101,46,114,101,112,114,105,111,114,105,116,105,122,101]) (agl ag22 dx22) (b22.dec nm scs) sc22 (.ref 294) .none .none (.str (zs [112,114,105,111,114,105,116,121,46,112,114,105,111,114,105,116,121]) 187) none (.ref 300) .none
noncomputable def fd23 : FuncData := fnOf (nm 96) (zs [80,114,105,111,114,105,116,121,84,114,101,101,46,114,101,109,111,118,101,95,115,116,114,101,97,109]) (agl ag23 dx23) (b23.dec nm scs) sc23 .none .none .none (.str (zs [112,114,105,111,114,105,116,121,46,112,114,105,111,114,105,116,121]) 187) none (.ref 307) .none
noncomputable def fd24 : FuncData := fnOf (nm 81) (zs [80,114,105,111,114,105,116,121,84,114,101,101,46,98,108,111,99,107]) (agl ag24 dx24) (b24.dec nm scs) sc24 .none .none .none (.str (zs [112,114,105,111,114,105,116,121,46,112,114,105,111,114,105,116,121]) 187) none (.ref 314) .none
noncomputable def fd25 : FuncData := fnOf (nm 99) (zs [80,114,105,111,114,105,116,121,84,114,101,101,46,117,110,98,108,111,99,107]) (agl ag25 dx25) (b25.dec nm scs) sc25 .none .none .none (.str (zs [112,114,105,111,114,105,116,121,46,112,114,105,111,114,105,116,121]) 187) none (.ref 321) .none
noncomputable def fd26 : FuncData := fnOf (nm 101) (zs [80,114,105,111,114,105,116,121,84,114,101,101,46,95,95,105,116,101,114,95,95]) (agl ag26 dx26) (b26.dec nm scs) sc26 .none .none .none (.str (zs [112,114,105,111,114,105,116,121,46,112,114,105,111,114,105,116,121]) 187) none (.ref 328) .none
noncomputable def fd27 : FuncData := fnOf (nm 102) (zs [80,114,105,111,114,105,116,121,84,114,101,101,46,95,95,110,101,120,116,95,95]) (agl ag27 dx27) (b27.dec nm scs) sc27 .none .none .none (.str (zs [112,114,105,111,114,105,116,121,46,112,114,105,111,114,105,116,121]) 187) none (.ref 335) .none
noncomputable def fd28 : FuncData := fnOf (nm 104) (zs [80,114,105,111,114,105,116,121,84,114,101,101,46,110,101,120,116]) (agl ag28 dx28) (b28.dec nm scs) sc28 .none .none .none (.str (zs [112,114,105,111,114,105,116,121,46,112,114,105,111,114,105,116,121]) 187) none (.ref 342) .none
noncomputable def fd29 : FuncData := fnOf (nm 110) (nm 110) (agl ag29 dx29) (b29.dec nm scs) sc29 .none .none .none (.str (zs [108,97,119,95,105,118,48,48,51,53,95,48,53]) 637) none (.ref 356) .none
noncomputable def fd30 : FuncData := fnOf (nm 114) (nm 114) (agl ag30 dx30) (b30.dec nm scs) sc30 .none .none .none (.str (zs [108,97,119,95,105,118,48,48,51,53,95,48,53]) 637) none (.ref 363) .none
noncomputable def o3 (P : Params) : Obj := ⟨(.type "dict"), none, .dict #[⟨(PyData.keyHash P (zs [95,95,110,97,109,101,95,95])), (.str (zs [95,95,110,97,109,101,95,95]) 165), (.str (zs [108,97,119,95,105,118,48,48,51,53,95,48,53]) 637)⟩, ⟨(PyData.keyHash P (zs [95,95,100,111,99,95,95])), (.str (zs [95,95,100,111,99,95,95]) 166), .none⟩, ⟨(PyData.keyHash P (zs [95,95,112,97,99,107,97,103,101,95,95])), (.str (zs [95,95,112,97,99,107,97,103,101,95,95]) 167), .none⟩, ⟨(PyData.keyHash P (zs [95,95,108,111,97,100,101,114,95,95])), (.str (zs [95,95,108,111,97,100,101,114,95,95]) 168), (.builtin "__main__.__loader__#opaque")⟩, ⟨(PyData.keyHash P (zs [95,95,115,112,101,99,95,95])), (.str (zs [95,95,115,112,101,99,95,95]) 169), .none⟩, ⟨(PyData.keyHash P (zs [95,95,97,110,110,111,116,97,116,105,111,110,115,95,95])), (.str (zs [95,95,97,110,110,111,116,97,116,105,111,110,115,95,95]) 170), (.ref 6)⟩, ⟨(PyData.keyHash P (zs [95,95,98,117,105,108,116,105,110,115,95,95])), (.str (zs [95,95,98,117,105,108,116,105,110,115,95,95]) 171), (.ref 4)⟩, ⟨(PyData.keyHash P (zs [95,95,102,105,108,101,95,95])), (.str (zs [95,95,102,105,108,101,95,95]) 173), (.str (zs [47,99,108,97,105,109,47,99,117,116,46,112,121]) 172)⟩, ⟨(PyData.keyHash P (zs [95,95,99,97,99,104,101,100,95,95])), (.str (zs [95,95,99,97,99,104,101,100,95,95]) 174), .none⟩, ⟨(PyData.keyHash P (nm 2)), (.str (nm 2) 196), (.ref 21)⟩, ⟨(PyData.keyHash P (nm 5)), (.str (nm 5) 205), (.ref 28)⟩, ⟨(PyData.keyHash P (nm 9)), (.str (nm 9) 212), (.ref 35)⟩, ⟨(PyData.keyHash P (nm 11)), (.str (nm 11) 232), (.ref 45)⟩, ⟨(PyData.keyHash P (nm 12)), (.str (nm 12) 248), (.ref 58)⟩, ⟨(PyData.keyHash P (nm 13)), (.str (nm 13) 264), (.ref 70)⟩, ⟨(PyData.keyHash P (nm 14)), (.str (nm 14) 280), (.ref 82)⟩, ⟨(PyData.keyHash P (nm 15)), (.str (nm 15) 296), (.ref 94)⟩, ⟨(PyData.keyHash P (nm 16)), (.str (nm 16) 312), (.ref 106)⟩, ⟨(PyData.keyHash P (nm 17)), (.str (nm 17) 328), (.ref 118)⟩, ⟨(PyData.keyHash P (nm 18)), (.str (nm 18) 344), (.ref 130)⟩, ⟨(PyData.keyHash P (nm 19)), (.str (nm 19) 500), (.ref 245)⟩, ⟨(PyData.keyHash P (nm 64)), (.str (nm 64) 510), (.ref 256)⟩, ⟨(PyData.keyHash P (nm 68)), (.str (nm 68) 636), (.ref 346)⟩, ⟨(PyData.keyHash P (nm 110)), (.str (nm 110) 650), (.ref 357)⟩, ⟨(PyData.keyHash P (nm 114)), (.str (nm 114) 674), (.ref 364)⟩] 25, #[]⟩
noncomputable def o20 : Obj := ⟨(.type "code"), none, .fields #[(.str (nm 2) 189), (.str (nm 2) 190), (.str (zs [47,99,108,97,105,109,47,99,117,116,46,112,121]) 191), (.int (2) 0), (.int (2) 0), (.int (0) 0), (.int (0) 0), (.int (3) 0), (.ref 15), (.bool true), (.int (181) 0), (.ref 16), .none, (.ref 17), (.ref 18), (.ref 19), (.int (194) 0), (.int (2) 0), (.str (zs [47,99,108,97,105,109,47,99,117,116,46,112,121]) 195)], #[]⟩
noncomputable def o21 : Obj := ⟨.type "function", none, .func fd0, #[]⟩
noncomputable def o27 : Obj := ⟨(.type "code"), none, .fields #[(.str (nm 5) 197), (.str (nm 5) 198), (.str (zs [47,99,108,97,105,109,47,99,117,116,46,112,121]) 199), (.int (6) 0), (.int (2) 0), (.int (0) 0), (.int (0) 0), (.int (3) 0), (.ref 22), (.bool true), (.int (181) 0), (.ref 23), .none, (.ref 24), (.ref 25), (.ref 26), (.int (203) 0), (.int (6) 0), (.str (zs [47,99,108,97,105,109,47,99,117,116,46,112,121]) 204)], #[]⟩
noncomputable def o28 : Obj := ⟨.type "function", none, .func fd1, #[]⟩
noncomputable def o34 : Obj := ⟨(.type "code"), none, .fields #[(.str (nm 9) 206), (.str (nm 9) 207), (.str (zs [47,99,108,97,105,109,47,99,117,116,46,112,121]) 208), (.int (13) 0), (.int (1) 0), (.int (0) 0), (.int (0) 0), (.int (3) 0), (.ref 29), (.bool true), (.int (181) 0), (.ref 30), .none, (.ref 31), (.ref 32), (.ref 33), (.int (210) 0), (.int (13) 0), (.str (zs [47,99,108,97,105,109,47,99,117,116,46,112,121]) 211)], #[]⟩
noncomputable def o35 : Obj := ⟨.type "function", none, .func fd2, #[]⟩
noncomputable def o44 (P : Params) : Obj := ⟨(.type "dict"), none, .dict #[⟨(PyData.keyHash P (zs [95,95,109,111,100,117,108,101,95,95])), (.str (zs [95,95,109,111,100,117,108,101,95,95]) 220), (.str (zs [112,114,105,111,114,105,116,121,46,112,114,105,111,114,105,116,121]) 187)⟩, ⟨(PyData.keyHash P (zs [95,95,102,105,114,115,116,108,105,110,101,110,111,95,95])), (.str (zs [95,95,102,105,114,115,116,108,105,110,101,110,111,95,95]) 224), (.int (15) 223)⟩, ⟨(PyData.keyHash P (zs [95,95,115,116,97,116,105,99,95,97,116,116,114,105,98,117,116,101,115,95,95])), (.str (zs [95,95,115,116,97,116,105,99,95,97,116,116,114,105,98,117,116,101,115,95,95]) 225), (.ref 43)⟩, ⟨(PyData.keyHash P (zs [95,95,119,101,97,107,114,101,102,95,95])), (.str (zs [95,95,119,101,97,107,114,101,102,95,95]) 227), (.ref 46)⟩, ⟨(PyData.keyHash P (zs [95,95,100,111,99,95,95])), (.str (zs [95,95,100,111,99,95,95]) 228), .none⟩] 3, #[]⟩
noncomputable def o45 : Obj := ⟨(.type "type"), none, .cls { name := (nm 11), bases := [(.type "Exception")], mro := [(.ref 45), (.type "Exception"), (.type "BaseException"), (.type "object")], ns := 44, qualname := (nm 11), hasDict := true, slotNames := [], subclasses := [(.ref 58), (.ref 70), (.ref 82), (.ref 94), (.ref 106), (.ref 118), (.ref 130)], abstract := false, collection := none, hasDel := false }, #[(some (.ref 36)), none, (some (.str (nm 11) 213)), (some (.str (nm 11) 221)), (some (.builtin "Exception.__new__")), (some (.bool true))]⟩
noncomputable def o57 (P : Params) : Obj := ⟨(.type "dict"), none, .dict #[⟨(PyData.keyHash P (zs [95,95,109,111,100,117,108,101,95,95])), (.str (zs [95,95,109,111,100,117,108,101,95,95]) 240), (.str (zs [112,114,105,111,114,105,116,121,46,112,114,105,111,114,105,116,121]) 187)⟩, ⟨(PyData.keyHash P (zs [95,95,102,105,114,115,116,108,105,110,101,110,111,95,95])), (.str (zs [95,95,102,105,114,115,116,108,105,110,101,110,111,95,95]) 244), (.int (17) 243)⟩, ⟨(PyData.keyHash P (zs [95,95,115,116,97,116,105,99,95,97,116,116,114,105,98,117,116,101,115,95,95])), (.str (zs [95,95,115,116,97,116,105,99,95,97,116,116,114,105,98,117,116,101,115,95,95]) 245), (.ref 56)⟩, ⟨(PyData.keyHash P (zs [95,95,100,111,99,95,95])), (.str (zs [95,95,100,111,99,95,95]) 246), .none⟩] 2, #[]⟩
noncomputable def o58 : Obj := ⟨(.type "type"), none, .cls { name := (nm 12), bases := [(.ref 45)], mro := [(.ref 58), (.ref 45), (.type "Exception"), (.type "BaseException"), (.type "object")], ns := 57, qualname := (nm 12), hasDict := true, slotNames := [], subclasses := [], abstract := false, collection := none, hasDel := false }, #[(some (.ref 49)), none, (some (.str (nm 12) 233)), (some (.str (nm 12) 241)), (some (.builtin "Exception.__new__")), (some (.bool true))]⟩
noncomputable def o69 (P : Params) : Obj := ⟨(.type "dict"), none, .dict #[⟨(PyData.keyHash P (zs [95,95,109,111,100,117,108,101,95,95])), (.str (zs [95,95,109,111,100,117,108,101,95,95]) 256), (.str (zs [112,114,105,111,114,105,116,121,46,112,114,105,111,114,105,116,121]) 187)⟩, ⟨(PyData.keyHash P (zs [95,95,102,105,114,115,116,108,105,110,101,110,111,95,95])), (.str (zs [95,95,102,105,114,115,116,108,105,110,101,110,111,95,95]) 260), (.int (19) 259)⟩, ⟨(PyData.keyHash P (zs [95,95,115,116,97,116,105,99,95,97,116,116,114,105,98,117,116,101,115,95,95])), (.str (zs [95,95,115,116,97,116,105,99,95,97,116,116,114,105,98,117,116,101,115,95,95]) 261), (.ref 68)⟩, ⟨(PyData.keyHash P (zs [95,95,100,111,99,95,95])), (.str (zs [95,95,100,111,99,95,95]) 262), .none⟩] 2, #[]⟩
noncomputable def o70 : Obj := ⟨(.type "type"), none, .cls { name := (nm 13), bases := [(.ref 45)], mro := [(.ref 70), (.ref 45), (.type "Exception"), (.type "BaseException"), (.type "object")], ns := 69, qualname := (nm 13), hasDict := true, slotNames := [], subclasses := [], abstract := false, collection := none, hasDel := false }, #[(some (.ref 61)), none, (some (.str (nm 13) 249)), (some (.str (nm 13) 257)), (some (.builtin "Exception.__new__")), (some (.bool true))]⟩
noncomputable def o81 (P : Params) : Obj := ⟨(.type "dict"), none, .dict #[⟨(PyData.keyHash P (zs [95,95,109,111,100,117,108,101,95,95])), (.str (zs [95,95,109,111,100,117,108,101,95,95]) 272), (.str (zs [112,114,105,111,114,105,116,121,46,112,114,105,111,114,105,116,121]) 187)⟩, ⟨(PyData.keyHash P (zs [95,95,102,105,114,115,116,108,105,110,101,110,111,95,95])), (.str (zs [95,95,102,105,114,115,116,108,105,110,101,110,111,95,95]) 276), (.int (21) 275)⟩, ⟨(PyData.keyHash P (zs [95,95,115,116,97,116,105,99,95,97,116,116,114,105,98,117,116,101,115,95,95])), (.str (zs [95,95,115,116,97,116,105,99,95,97,116,116,114,105,98,117,116,101,115,95,95]) 277), (.ref 80)⟩, ⟨(PyData.keyHash P (zs [95,95,100,111,99,95,95])), (.str (zs [95,95,100,111,99,95,95]) 278), .none⟩] 2, #[]⟩
noncomputable def o82 : Obj := ⟨(.type "type"), none, .cls { name := (nm 14), bases := [(.ref 45)], mro := [(.ref 82), (.ref 45), (.type "Exception"), (.type "BaseException"), (.type "object")], ns := 81, qualname := (nm 14), hasDict := true, slotNames := [], subclasses := [], abstract := false, collection := none, hasDel := false }, #[(some (.ref 73)), none, (some (.str (nm 14) 265)), (some (.str (nm 14) 273)), (some (.builtin "Exception.__new__")), (some (.bool true))]⟩
noncomputable def o93 (P : Params) : Obj := ⟨(.type "dict"), none, .dict #[⟨(PyData.keyHash P (zs [95,95,109,111,100,117,108,101,95,95])), (.str (zs [95,95,109,111,100,117,108,101,95,95]) 288), (.str (zs [112,114,105,111,114,105,116,121,46,112,114,105,111,114,105,116,121]) 187)⟩, ⟨(PyData.keyHash P (zs [95,95,102,105,114,115,116,108,105,110,101,110,111,95,95])), (.str (zs [95,95,102,105,114,115,116,108,105,110,101,110,111,95,95]) 292), (.int (23) 291)⟩, ⟨(PyData.keyHash P (zs [95,95,115,116,97,116,105,99,95,97,116,116,114,105,98,117,116,101,115,95,95])), (.str (zs [95,95,115,116,97,116,105,99,95,97,116,116,114,105,98,117,116,101,115,95,95]) 293), (.ref 92)⟩, ⟨(PyData.keyHash P (zs [95,95,100,111,99,95,95])), (.str (zs [95,95,100,111,99,95,95]) 294), .none⟩] 2, #[]⟩
noncomputable def o94 : Obj := ⟨(.type "type"), none, .cls { name := (nm 15), bases := [(.ref 45)], mro := [(.ref 94), (.ref 45), (.type "Exception"), (.type "BaseException"), (.type "object")], ns := 93, qualname := (nm 15), hasDict := true, slotNames := [], subclasses := [], abstract := false, collection := none, hasDel := false }, #[(some (.ref 85)), none, (some (.str (nm 15) 281)), (some (.str (nm 15) 289)), (some (.builtin "Exception.__new__")), (some (.bool true))]⟩
noncomputable def o105 (P : Params) : Obj := ⟨(.type "dict"), none, .dict #[⟨(PyData.keyHash P (zs [95,95,109,111,100,117,108,101,95,95])), (.str (zs [95,95,109,111,100,117,108,101,95,95]) 304), (.str (zs [112,114,105,111,114,105,116,121,46,112,114,105,111,114,105,116,121]) 187)⟩, ⟨(PyData.keyHash P (zs [95,95,102,105,114,115,116,108,105,110,101,110,111,95,95])), (.str (zs [95,95,102,105,114,115,116,108,105,110,101,110,111,95,95]) 308), (.int (25) 307)⟩, ⟨(PyData.keyHash P (zs [95,95,115,116,97,116,105,99,95,97,116,116,114,105,98,117,116,101,115,95,95])), (.str (zs [95,95,115,116,97,116,105,99,95,97,116,116,114,105,98,117,116,101,115,95,95]) 309), (.ref 104)⟩, ⟨(PyData.keyHash P (zs [95,95,100,111,99,95,95])), (.str (zs [95,95,100,111,99,95,95]) 310), .none⟩] 2, #[]⟩
noncomputable def o106 : Obj := ⟨(.type "type"), none, .cls { name := (nm 16), bases := [(.ref 45)], mro := [(.ref 106), (.ref 45), (.type "Exception"), (.type "BaseException"), (.type "object")], ns := 105, qualname := (nm 16), hasDict := true, slotNames := [], subclasses := [], abstract := false, collection := none, hasDel := false }, #[(some (.ref 97)), none, (some (.str (nm 16) 297)), (some (.str (nm 16) 305)), (some (.builtin "Exception.__new__")), (some (.bool true))]⟩
noncomputable def o117 (P : Params) : Obj := ⟨(.type "dict"), none, .dict #[⟨(PyData.keyHash P (zs [95,95,109,111,100,117,108,101,95,95])), (.str (zs [95,95,109,111,100,117,108,101,95,95]) 320), (.str (zs [112,114,105,111,114,105,116,121,46,112,114,105,111,114,105,116,121]) 187)⟩, ⟨(PyData.keyHash P (zs [95,95,102,105,114,115,116,108,105,110,101,110,111,95,95])), (.str (zs [95,95,102,105,114,115,116,108,105,110,101,110,111,95,95]) 324), (.int (27) 323)⟩, ⟨(PyData.keyHash P (zs [95,95,115,116,97,116,105,99,95,97,116,116,114,105,98,117,116,101,115,95,95])), (.str (zs [95,95,115,116,97,116,105,99,95,97,116,116,114,105,98,117,116,101,115,95,95]) 325), (.ref 116)⟩, ⟨(PyData.keyHash P (zs [95,95,100,111,99,95,95])), (.str (zs [95,95,100,111,99,95,95]) 326), .none⟩] 2, #[]⟩
noncomputable def o118 : Obj := ⟨(.type "type"), none, .cls { name := (nm 17), bases := [(.ref 45)], mro := [(.ref 118), (.ref 45), (.type "Exception"), (.type "BaseException"), (.type "object")], ns := 117, qualname := (nm 17), hasDict := true, slotNames := [], subclasses := [], abstract := false, collection := none, hasDel := false }, #[(some (.ref 109)), none, (some (.str (nm 17) 313)), (some (.str (nm 17) 321)), (some (.builtin "Exception.__new__")), (some (.bool true))]⟩
noncomputable def o129 (P : Params) : Obj := ⟨(.type "dict"), none, .dict #[⟨(PyData.keyHash P (zs [95,95,109,111,100,117,108,101,95,95])), (.str (zs [95,95,109,111,100,117,108,101,95,95]) 336), (.str (zs [112,114,105,111,114,105,116,121,46,112,114,105,111,114,105,116,121]) 187)⟩, ⟨(PyData.keyHash P (zs [95,95,102,105,114,115,116,108,105,110,101,110,111,95,95])), (.str (zs [95,95,102,105,114,115,116,108,105,110,101,110,111,95,95]) 340), (.int (29) 339)⟩, ⟨(PyData.keyHash P (zs [95,95,115,116,97,116,105,99,95,97,116,116,114,105,98,117,116,101,115,95,95])), (.str (zs [95,95,115,116,97,116,105,99,95,97,116,116,114,105,98,117,116,101,115,95,95]) 341), (.ref 128)⟩, ⟨(PyData.keyHash P (zs [95,95,100,111,99,95,95])), (.str (zs [95,95,100,111,99,95,95]) 342), .none⟩] 2, #[]⟩
noncomputable def o130 : Obj := ⟨(.type "type"), none, .cls { name := (nm 18), bases := [(.ref 45)], mro := [(.ref 130), (.ref 45), (.type "Exception"), (.type "BaseException"), (.type "object")], ns := 129, qualname := (nm 18), hasDict := true, slotNames := [], subclasses := [], abstract := false, collection := none, hasDel := false }, #[(some (.ref 121)), none, (some (.str (nm 18) 329)), (some (.str (nm 18) 337)), (some (.builtin "Exception.__new__")), (some (.bool true))]⟩
noncomputable def o140 : Obj := ⟨(.type "tuple"), none, .seq #[(.int (16) 357)] 0, #[]⟩
noncomputable def o146 : Obj := ⟨(.type "code"), none, .fields #[(.str (nm 23) 358), (.str (zs [83,116,114,101,97,109,46,95,95,105,110,105,116,95,95]) 359), (.str (zs [47,99,108,97,105,109,47,99,117,116,46,112,121]) 360), (.int (33) 0), (.int (3) 0), (.int (0) 0), (.int (0) 0), (.int (3) 0), (.ref 141), (.bool true), (.int (181) 0), (.ref 142), .none, (.ref 143), (.ref 144), (.ref 145), (.int (364) 0), (.int (33) 0), (.str (zs [47,99,108,97,105,109,47,99,117,116,46,112,121]) 365)], #[]⟩
noncomputable def o147 : Obj := ⟨.type "function", none, .func fd3, #[]⟩
noncomputable def o153 : Obj := ⟨(.type "code"), none, .fields #[(.str (nm 22) 367), (.str (zs [83,116,114,101,97,109,46,119,101,105,103,104,116]) 368), (.str (zs [47,99,108,97,105,109,47,99,117,116,46,112,121]) 369), (.int (43) 0), (.int (1) 0), (.int (0) 0), (.int (0) 0), (.int (3) 0), (.ref 148), (.bool true), (.int (181) 0), (.ref 149), .none, (.ref 150), (.ref 151), (.ref 152), (.int (371) 0), (.int (43) 0), (.str (zs [47,99,108,97,105,109,47,99,117,116,46,112,121]) 372)], #[]⟩
noncomputable def o154 : Obj := ⟨.type "function", none, .func fd4, #[]⟩
noncomputable def o155 : Obj := ⟨(.type "property"), none, .fields #[(.ref 154), .none, .none, .none, (.int (0) 0), (.bool false)], #[]⟩
noncomputable def o162 : Obj := ⟨(.type "code"), none, .fields #[(.str (nm 22) 376), (.str (zs [83,116,114,101,97,109,46,119,101,105,103,104,116]) 377), (.str (zs [47,99,108,97,105,109,47,99,117,116,46,112,121]) 378), (.int (47) 0), (.int (2) 0), (.int (0) 0), (.int (0) 0), (.int (3) 0), (.ref 157), (.bool true), (.int (181) 0), (.ref 158), .none, (.ref 159), (.ref 160), (.ref 161), (.int (381) 0), (.int (47) 0), (.str (zs [47,99,108,97,105,109,47,99,117,116,46,112,121]) 382)], #[]⟩
noncomputable def o163 : Obj := ⟨.type "function", none, .func fd5, #[]⟩
noncomputable def o164 : Obj := ⟨(.type "property"), none, .fields #[(.ref 154), (.ref 163), .none, .none, (.str (nm 22) 374), (.bool false)], #[]⟩
noncomputable def o170 : Obj := ⟨(.type "code"), none, .fields #[(.str (nm 37) 385), (.str (zs [83,116,114,101,97,109,46,97,100,100,95,99,104,105,108,100]) 386), (.str (zs [47,99,108,97,105,109,47,99,117,116,46,112,121]) 387), (.int (55) 0), (.int (2) 0), (.int (0) 0), (.int (0) 0), (.int (3) 0), (.ref 165), (.bool true), (.int (181) 0), (.ref 166), .none, (.ref 167), (.ref 168), (.ref 169), (.int (390) 0), (.int (55) 0), (.str (zs [47,99,108,97,105,109,47,99,117,116,46,112,121]) 391)], #[]⟩
noncomputable def o171 : Obj := ⟨.type "function", none, .func fd6, #[]⟩
noncomputable def o177 : Obj := ⟨(.type "code"), none, .fields #[(.str (nm 38) 393), (.str (zs [83,116,114,101,97,109,46,97,100,100,95,99,104,105,108,100,95,101,120,99,108,117,115,105,118,101]) 394), (.str (zs [47,99,108,97,105,109,47,99,117,116,46,112,121]) 395), (.int (60) 0), (.int (2) 0), (.int (0) 0), (.int (0) 0), (.int (3) 0), (.ref 172), (.bool true), (.int (181) 0), (.ref 173), .none, (.ref 174), (.ref 175), (.ref 176), (.int (400) 0), (.int (60) 0), (.str (zs [47,99,108,97,105,109,47,99,117,116,46,112,121]) 401)], #[]⟩
noncomputable def o178 : Obj := ⟨.type "function", none, .func fd7, #[]⟩
noncomputable def o179 : Obj := ⟨(.type "tuple"), none, .seq #[(.bool true)] 0, #[]⟩
noncomputable def o185 : Obj := ⟨(.type "code"), none, .fields #[(.str (nm 42) 403), (.str (zs [83,116,114,101,97,109,46,114,101,109,111,118,101,95,99,104,105,108,100]) 404), (.str (zs [47,99,108,97,105,109,47,99,117,116,46,112,121]) 405), (.int (69) 0), (.int (3) 0), (.int (0) 0), (.int (0) 0), (.int (3) 0), (.ref 180), (.bool true), (.int (181) 0), (.ref 181), .none, (.ref 182), (.ref 183), (.ref 184), (.int (413) 0), (.int (69) 0), (.str (zs [47,99,108,97,105,109,47,99,117,116,46,112,121]) 414)], #[]⟩
noncomputable def o186 : Obj := ⟨.type "function", none, .func fd8, #[]⟩
noncomputable def o192 : Obj := ⟨(.type "code"), none, .fields #[(.str (nm 48) 416), (.str (zs [83,116,114,101,97,109,46,115,99,104,101,100,117,108,101]) 417), (.str (zs [47,99,108,97,105,109,47,99,117,116,46,112,121]) 418), (.int (82) 0), (.int (1) 0), (.int (0) 0), (.int (0) 0), (.int (3) 0), (.ref 187), (.bool true), (.int (181) 0), (.ref 188), .none, (.ref 189), (.ref 190), (.ref 191), (.int (425) 0), (.int (82) 0), (.str (zs [47,99,108,97,105,109,47,99,117,116,46,112,121]) 426)], #[]⟩
noncomputable def o193 : Obj := ⟨.type "function", none, .func fd9, #[]⟩
noncomputable def o199 : Obj := ⟨(.type "code"), none, .fields #[(.str (nm 53) 428), (.str (zs [83,116,114,101,97,109,46,95,95,114,101,112,114,95,95]) 429), (.str (zs [47,99,108,97,105,109,47,99,117,116,46,112,121]) 430), (.int (106) 0), (.int (1) 0), (.int (0) 0), (.int (0) 0), (.int (3) 0), (.ref 194), (.bool true), (.int (181) 0), (.ref 195), .none, (.ref 196), (.ref 197), (.ref 198), (.int (432) 0), (.int (106) 0), (.str (zs [47,99,108,97,105,109,47,99,117,116,46,112,121]) 433)], #[]⟩
noncomputable def o200 : Obj := ⟨.type "function", none, .func fd10, #[]⟩
noncomputable def o206 : Obj := ⟨(.type "code"), none, .fields #[(.str (nm 55) 435), (.str (zs [83,116,114,101,97,109,46,95,95,101,113,95,95]) 436), (.str (zs [47,99,108,97,105,109,47,99,117,116,46,112,121]) 437), (.int (109) 0), (.int (2) 0), (.int (0) 0), (.int (0) 0), (.int (3) 0), (.ref 201), (.bool true), (.int (181) 0), (.ref 202), .none, (.ref 203), (.ref 204), (.ref 205), (.int (440) 0), (.int (109) 0), (.str (zs [47,99,108,97,105,109,47,99,117,116,46,112,121]) 441)], #[]⟩
noncomputable def o207 : Obj := ⟨.type "function", none, .func fd11, #[]⟩
noncomputable def o213 : Obj := ⟨(.type "code"), none, .fields #[(.str (nm 56) 443), (.str (zs [83,116,114,101,97,109,46,95,95,110,101,95,95]) 444), (.str (zs [47,99,108,97,105,109,47,99,117,116,46,112,121]) 445), (.int (114) 0), (.int (2) 0), (.int (0) 0), (.int (0) 0), (.int (3) 0), (.ref 208), (.bool true), (.int (181) 0), (.ref 209), .none, (.ref 210), (.ref 211), (.ref 212), (.int (448) 0), (.int (114) 0), (.str (zs [47,99,108,97,105,109,47,99,117,116,46,112,121]) 449)], #[]⟩
noncomputable def o214 : Obj := ⟨.type "function", none, .func fd12, #[]⟩
noncomputable def o220 : Obj := ⟨(.type "code"), none, .fields #[(.str (nm 57) 451), (.str (zs [83,116,114,101,97,109,46,95,95,108,116,95,95]) 452), (.str (zs [47,99,108,97,105,109,47,99,117,116,46,112,121]) 453), (.int (117) 0), (.int (2) 0), (.int (0) 0), (.int (0) 0), (.int (3) 0), (.ref 215), (.bool true), (.int (181) 0), (.ref 216), .none, (.ref 217), (.ref 218), (.ref 219), (.int (456) 0), (.int (117) 0), (.str (zs [47,99,108,97,105,109,47,99,117,116,46,112,121]) 457)], #[]⟩
noncomputable def o221 : Obj := ⟨.type "function", none, .func fd13, #[]⟩
noncomputable def o227 : Obj := ⟨(.type "code"), none, .fields #[(.str (nm 59) 459), (.str (zs [83,116,114,101,97,109,46,95,95,108,101,95,95]) 460), (.str (zs [47,99,108,97,105,109,47,99,117,116,46,112,121]) 461), (.int (122) 0), (.int (2) 0), (.int (0) 0), (.int (0) 0), (.int (3) 0), (.ref 222), (.bool true), (.int (181) 0), (.ref 223), .none, (.ref 224), (.ref 225), (.ref 226), (.int (464) 0), (.int (122) 0), (.str (zs [47,99,108,97,105,109,47,99,117,116,46,112,121]) 465)], #[]⟩
noncomputable def o228 : Obj := ⟨.type "function", none, .func fd14, #[]⟩
noncomputable def o234 : Obj := ⟨(.type "code"), none, .fields #[(.str (nm 60) 467), (.str (zs [83,116,114,101,97,109,46,95,95,103,116,95,95]) 468), (.str (zs [47,99,108,97,105,109,47,99,117,116,46,112,121]) 469), (.int (127) 0), (.int (2) 0), (.int (0) 0), (.int (0) 0), (.int (3) 0), (.ref 229), (.bool true), (.int (181) 0), (.ref 230), .none, (.ref 231), (.ref 232), (.ref 233), (.int (472) 0), (.int (127) 0), (.str (zs [47,99,108,97,105,109,47,99,117,116,46,112,121]) 473)], #[]⟩
noncomputable def o235 : Obj := ⟨.type "function", none, .func fd15, #[]⟩
noncomputable def o241 : Obj := ⟨(.type "code"), none, .fields #[(.str (nm 61) 475), (.str (zs [83,116,114,101,97,109,46,95,95,103,101,95,95]) 476), (.str (zs [47,99,108,97,105,109,47,99,117,116,46,112,121]) 477), (.int (132) 0), (.int (2) 0), (.int (0) 0), (.int (0) 0), (.int (3) 0), (.ref 236), (.bool true), (.int (181) 0), (.ref 237), .none, (.ref 238), (.ref 239), (.ref 240), (.int (480) 0), (.int (132) 0), (.str (zs [47,99,108,97,105,109,47,99,117,116,46,112,121]) 481)], #[]⟩
noncomputable def o242 : Obj := ⟨.type "function", none, .func fd16, #[]⟩
noncomputable def o244 (P : Params) : Obj := ⟨(.type "dict"), none, .dict #[⟨(PyData.keyHash P (zs [95,95,109,111,100,117,108,101,95,95])), (.str (zs [95,95,109,111,100,117,108,101,95,95]) 352), (.str (zs [112,114,105,111,114,105,116,121,46,112,114,105,111,114,105,116,121]) 187)⟩, ⟨(PyData.keyHash P (zs [95,95,102,105,114,115,116,108,105,110,101,110,111,95,95])), (.str (zs [95,95,102,105,114,115,116,108,105,110,101,110,111,95,95]) 356), (.int (31) 355)⟩, ⟨(PyData.keyHash P (nm 23)), (.str (nm 23) 366), (.ref 147)⟩, ⟨(PyData.keyHash P (nm 22)), (.str (nm 22) 374), (.ref 164)⟩, ⟨(PyData.keyHash P (nm 37)), (.str (nm 37) 392), (.ref 171)⟩, ⟨(PyData.keyHash P (nm 38)), (.str (nm 38) 402), (.ref 178)⟩, ⟨(PyData.keyHash P (nm 42)), (.str (nm 42) 415), (.ref 186)⟩, ⟨(PyData.keyHash P (nm 48)), (.str (nm 48) 427), (.ref 193)⟩, ⟨(PyData.keyHash P (nm 53)), (.str (nm 53) 434), (.ref 200)⟩, ⟨(PyData.keyHash P (nm 55)), (.str (nm 55) 442), (.ref 207)⟩, ⟨(PyData.keyHash P (nm 56)), (.str (nm 56) 450), (.ref 214)⟩, ⟨(PyData.keyHash P (nm 57)), (.str (nm 57) 458), (.ref 221)⟩, ⟨(PyData.keyHash P (nm 59)), (.str (nm 59) 466), (.ref 228)⟩, ⟨(PyData.keyHash P (nm 60)), (.str (nm 60) 474), (.ref 235)⟩, ⟨(PyData.keyHash P (nm 61)), (.str (nm 61) 482), (.ref 242)⟩, ⟨(PyData.keyHash P (zs [95,95,115,116,97,116,105,99,95,97,116,116,114,105,98,117,116,101,115,95,95])), (.str (zs [95,95,115,116,97,116,105,99,95,97,116,116,114,105,98,117,116,101,115,95,95]) 492), (.ref 243)⟩, ⟨(PyData.keyHash P (zs [95,95,100,105,99,116,95,95])), (.str (zs [95,95,100,105,99,116,95,95]) 494), (.ref 246)⟩, ⟨(PyData.keyHash P (zs [95,95,119,101,97,107,114,101,102,95,95])), (.str (zs [95,95,119,101,97,107,114,101,102,95,95]) 496), (.ref 247)⟩, ⟨(PyData.keyHash P (zs [95,95,100,111,99,95,95])), (.str (zs [95,95,100,111,99,95,95]) 497), .none⟩, ⟨(PyData.keyHash P (zs [95,95,104,97,115,104,95,95])), (.str (zs [95,95,104,97,115,104,95,95]) 498), .none⟩] 5, #[]⟩
noncomputable def o245 : Obj := ⟨(.type "type"), none, .cls { name := (nm 19), bases := [(.type "object")], mro := [(.ref 245), (.type "object")], ns := 244, qualname := (nm 19), hasDict := true, slotNames := [], subclasses := [], abstract := false, collection := none, hasDel := false }, #[none, none, (some (.str (nm 19) 345)), (some (.str (nm 19) 353)), (some (.builtin "object.__new__")), (some (.bool true))]⟩
noncomputable def o255 : Obj := ⟨(.type "code"), none, .fields #[(.str (nm 64) 501), (.str (nm 64) 502), (.str (zs [47,99,108,97,105,109,47,99,117,116,46,112,121]) 503), (.int (136) 0), (.int (2) 0), (.int (0) 0), (.int (0) 0), (.int (3) 0), (.ref 250), (.bool true), (.int (181) 0), (.ref 251), .none, (.ref 252), (.ref 253), (.ref 254), (.int (508) 0), (.int (136) 0), (.str (zs [47,99,108,97,105,109,47,99,117,116,46,112,121]) 509)], #[]⟩
noncomputable def o256 : Obj := ⟨.type "function", none, .func fd17, #[]⟩
noncomputable def o264 : Obj := ⟨(.type "tuple"), none, .seq #[(.int (1000) 523)] 0, #[]⟩
noncomputable def o270 : Obj := ⟨(.type "code"), none, .fields #[(.str (nm 23) 524), (.str (zs [80,114,105,111,114,105,116,121,84,114,101,101,46,95,95,105,110,105,116,95,95]) 525), (.str (zs [47,99,108,97,105,109,47,99,117,116,46,112,121]) 526), (.int (147) 0), (.int (2) 0), (.int (0) 0), (.int (0) 0), (.int (3) 0), (.ref 265), (.bool true), (.int (181) 0), (.ref 266), .none, (.ref 267), (.ref 268), (.ref 269), (.int (529) 0), (.int (147) 0), (.str (zs [47,99,108,97,105,109,47,99,117,116,46,112,121]) 530)], #[]⟩
noncomputable def o271 : Obj := ⟨.type "function", none, .func fd18, #[]⟩
noncomputable def o277 : Obj := ⟨(.type "code"), none, .fields #[(.str (nm 78) 532), (.str (zs [80,114,105,111,114,105,116,121,84,114,101,101,46,95,103,101,116,95,111,114,95,105,110,115,101,114,116,95,112,97,114,101,110,116]) 533), (.str (zs [47,99,108,97,105,109,47,99,117,116,46,112,121]) 534), (.int (157) 0), (.int (2) 0), (.int (0) 0), (.int (0) 0), (.int (3) 0), (.ref 272), (.bool true), (.int (181) 0), (.ref 273), .none, (.ref 274), (.ref 275), (.ref 276), (.int (537) 0), (.int (157) 0), (.str (zs [47,99,108,97,105,109,47,99,117,116,46,112,121]) 538)], #[]⟩
noncomputable def o278 : Obj := ⟨.type "function", none, .func fd19, #[]⟩
noncomputable def o284 : Obj := ⟨(.type "code"), none, .fields #[(.str (nm 84) 540), (.str (zs [80,114,105,111,114,105,116,121,84,114,101,101,46,95,101,120,99,108,117,115,105,118,101,95,105,110,115,101,114,116]) 541), (.str (zs [47,99,108,97,105,109,47,99,117,116,46,112,121]) 542), (.int (165) 0), (.int (3) 0), (.int (0) 0), (.int (0) 0), (.int (3) 0), (.ref 279), (.bool true), (.int (181) 0), (.ref 280), .none, (.ref 281), (.ref 282), (.ref 283), (.int (546) 0), (.int (165) 0), (.str (zs [47,99,108,97,105,109,47,99,117,116,46,112,121]) 547)], #[]⟩
noncomputable def o285 : Obj := ⟨.type "function", none, .func fd20, #[]⟩
noncomputable def o286 : Obj := ⟨(.type "tuple"), none, .seq #[.none, (.int (16) 549), (.bool false)] 0, #[]⟩
noncomputable def o292 : Obj := ⟨(.type "code"), none, .fields #[(.str (nm 80) 550), (.str (zs [80,114,105,111,114,105,116,121,84,114,101,101,46,105,110,115,101,114,116,95,115,116,114,101,97,109]) 551), (.str (zs [47,99,108,97,105,109,47,99,117,116,46,112,121]) 552), (.int (168) 0), (.int (5) 0), (.int (0) 0), (.int (0) 0), (.int (3) 0), (.ref 287), (.bool true), (.int (181) 0), (.ref 288), .none, (.ref 289), (.ref 290), (.ref 291), (.int (561) 0), (.int (168) 0), (.str (zs [47,99,108,97,105,109,47,99,117,116,46,112,121]) 562)], #[]⟩
noncomputable def o293 : Obj := ⟨.type "function", none, .func fd21, #[]⟩
noncomputable def o294 : Obj := ⟨(.type "tuple"), none, .seq #[.none, (.int (16) 564), (.bool false)] 0, #[]⟩
noncomputable def o300 : Obj := ⟨(.type "code"), none, .fields #[(.str (nm 90) 565), (.str (zs [80,114,105,111,114,105,116,121,84,114,101,101,46,114,101,112,114,105,111,114,105,116,105,122,101]) 566), (.str (zs [47,99,108,97,105,109,47,99,117,116,46,112,121]) 567), (.int (187) 0), (.int (5) 0), (.int (0) 0), (.int (0) 0), (.int (3) 0), (.ref 295), (.bool true), (.int (181) 0), (.ref 296), .none, (.ref 297), (.ref 298), (.ref 299), (.int (576) 0), (.int (187) 0), (.str (zs [47,99,108,97,105,109,47,99,117,116,46,112,121]) 577)], #[]⟩
noncomputable def o301 : Obj := ⟨.type "function", none, .func fd22, #[]⟩
noncomputable def o307 : Obj := ⟨(.type "code"), none, .fields #[(.str (nm 96) 579), (.str (zs [80,114,105,111,114,105,116,121,84,114,101,101,46,114,101,109,111,118,101,95,115,116,114,101,97,109]) 580), (.str (zs [47,99,108,97,105,109,47,99,117,116,46,112,121]) 581), (.int (212) 0), (.int (2) 0), (.int (0) 0), (.int (0) 0), (.int (3) 0), (.ref 302), (.bool true), (.int (181) 0), (.ref 303), .none, (.ref 304), (.ref 305), (.ref 306), (.int (586) 0), (.int (212) 0), (.str (zs [47,99,108,97,105,109,47,99,117,116,46,112,121]) 587)], #[]⟩
noncomputable def o308 : Obj := ⟨.type "function", none, .func fd23, #[]⟩
noncomputable def o314 : Obj := ⟨(.type "code"), none, .fields #[(.str (nm 81) 589), (.str (zs [80,114,105,111,114,105,116,121,84,114,101,101,46,98,108,111,99,107]) 590), (.str (zs [47,99,108,97,105,109,47,99,117,116,46,112,121]) 591), (.int (222) 0), (.int (2) 0), (.int (0) 0), (.int (0) 0), (.int (3) 0), (.ref 309), (.bool true), (.int (181) 0), (.ref 310), .none, (.ref 311), (.ref 312), (.ref 313), (.int (594) 0), (.int (222) 0), (.str (zs [47,99,108,97,105,109,47,99,117,116,46,112,121]) 595)], #[]⟩
noncomputable def o315 : Obj := ⟨.type "function", none, .func fd24, #[]⟩
noncomputable def o321 : Obj := ⟨(.type "code"), none, .fields #[(.str (nm 99) 597), (.str (zs [80,114,105,111,114,105,116,121,84,114,101,101,46,117,110,98,108,111,99,107]) 598), (.str (zs [47,99,108,97,105,109,47,99,117,116,46,112,121]) 599), (.int (230) 0), (.int (2) 0), (.int (0) 0), (.int (0) 0), (.int (3) 0), (.ref 316), (.bool true), (.int (181) 0), (.ref 317), .none, (.ref 318), (.ref 319), (.ref 320), (.int (602) 0), (.int (230) 0), (.str (zs [47,99,108,97,105,109,47,99,117,116,46,112,121]) 603)], #[]⟩
noncomputable def o322 : Obj := ⟨.type "function", none, .func fd25, #[]⟩
noncomputable def o328 : Obj := ⟨(.type "code"), none, .fields #[(.str (nm 101) 605), (.str (zs [80,114,105,111,114,105,116,121,84,114,101,101,46,95,95,105,116,101,114,95,95]) 606), (.str (zs [47,99,108,97,105,109,47,99,117,116,46,112,121]) 607), (.int (238) 0), (.int (1) 0), (.int (0) 0), (.int (0) 0), (.int (3) 0), (.ref 323), (.bool true), (.int (181) 0), (.ref 324), .none, (.ref 325), (.ref 326), (.ref 327), (.int (609) 0), (.int (238) 0), (.str (zs [47,99,108,97,105,109,47,99,117,116,46,112,121]) 610)], #[]⟩
noncomputable def o329 : Obj := ⟨.type "function", none, .func fd26, #[]⟩
noncomputable def o335 : Obj := ⟨(.type "code"), none, .fields #[(.str (nm 102) 612), (.str (zs [80,114,105,111,114,105,116,121,84,114,101,101,46,95,95,110,101,120,116,95,95]) 613), (.str (zs [47,99,108,97,105,109,47,99,117,116,46,112,121]) 614), (.int (241) 0), (.int (1) 0), (.int (0) 0), (.int (0) 0), (.int (3) 0), (.ref 330), (.bool true), (.int (181) 0), (.ref 331), .none, (.ref 332), (.ref 333), (.ref 334), (.int (616) 0), (.int (241) 0), (.str (zs [47,99,108,97,105,109,47,99,117,116,46,112,121]) 617)], #[]⟩
noncomputable def o336 : Obj := ⟨.type "function", none, .func fd27, #[]⟩
noncomputable def o342 : Obj := ⟨(.type "code"), none, .fields #[(.str (nm 104) 619), (.str (zs [80,114,105,111,114,105,116,121,84,114,101,101,46,110,101,120,116]) 620), (.str (zs [47,99,108,97,105,109,47,99,117,116,46,112,121]) 621), (.int (247) 0), (.int (1) 0), (.int (0) 0), (.int (0) 0), (.int (3) 0), (.ref 337), (.bool true), (.int (181) 0), (.ref 338), .none, (.ref 339), (.ref 340), (.ref 341), (.int (623) 0), (.int (247) 0), (.str (zs [47,99,108,97,105,109,47,99,117,116,46,112,121]) 624)], #[]⟩
noncomputable def o343 : Obj := ⟨.type "function", none, .func fd28, #[]⟩
noncomputable def o345 (P : Params) : Obj := ⟨(.type "dict"), none, .dict #[⟨(PyData.keyHash P (zs [95,95,109,111,100,117,108,101,95,95])), (.str (zs [95,95,109,111,100,117,108,101,95,95]) 518), (.str (zs [112,114,105,111,114,105,116,121,46,112,114,105,111,114,105,116,121]) 187)⟩, ⟨(PyData.keyHash P (zs [95,95,102,105,114,115,116,108,105,110,101,110,111,95,95])), (.str (zs [95,95,102,105,114,115,116,108,105,110,101,110,111,95,95]) 522), (.int (145) 521)⟩, ⟨(PyData.keyHash P (nm 23)), (.str (nm 23) 531), (.ref 271)⟩, ⟨(PyData.keyHash P (nm 78)), (.str (nm 78) 539), (.ref 278)⟩, ⟨(PyData.keyHash P (nm 84)), (.str (nm 84) 548), (.ref 285)⟩, ⟨(PyData.keyHash P (nm 80)), (.str (nm 80) 563), (.ref 293)⟩, ⟨(PyData.keyHash P (nm 90)), (.str (nm 90) 578), (.ref 301)⟩, ⟨(PyData.keyHash P (nm 96)), (.str (nm 96) 588), (.ref 308)⟩, ⟨(PyData.keyHash P (nm 81)), (.str (nm 81) 596), (.ref 315)⟩, ⟨(PyData.keyHash P (nm 99)), (.str (nm 99) 604), (.ref 322)⟩, ⟨(PyData.keyHash P (nm 101)), (.str (nm 101) 611), (.ref 329)⟩, ⟨(PyData.keyHash P (nm 102)), (.str (nm 102) 618), (.ref 336)⟩, ⟨(PyData.keyHash P (nm 104)), (.str (nm 104) 625), (.ref 343)⟩, ⟨(PyData.keyHash P (zs [95,95,115,116,97,116,105,99,95,97,116,116,114,105,98,117,116,101,115,95,95])), (.str (zs [95,95,115,116,97,116,105,99,95,97,116,116,114,105,98,117,116,101,115,95,95]) 629), (.ref 344)⟩, ⟨(PyData.keyHash P (zs [95,95,100,105,99,116,95,95])), (.str (zs [95,95,100,105,99,116,95,95]) 631), (.ref 347)⟩, ⟨(PyData.keyHash P (zs [95,95,119,101,97,107,114,101,102,95,95])), (.str (zs [95,95,119,101,97,107,114,101,102,95,95]) 633), (.ref 348)⟩, ⟨(PyData.keyHash P (zs [95,95,100,111,99,95,95])), (.str (zs [95,95,100,111,99,95,95]) 634), .none⟩] 4, #[]⟩
noncomputable def o346 : Obj := ⟨(.type "type"), none, .cls { name := (nm 68), bases := [(.type "object")], mro := [(.ref 346), (.type "object")], ns := 345, qualname := (nm 68), hasDict := true, slotNames := [], subclasses := [], abstract := false, collection := none, hasDel := false }, #[none, none, (some (.str (nm 68) 511)), (some (.str (nm 68) 519)), (some (.builtin "object.__new__")), (some (.bool true))]⟩
noncomputable def o356 : Obj := ⟨(.type "code"), none, .fields #[(.str (nm 110) 639), (.str (nm 110) 640), (.str (zs [47,99,108,97,105,109,47,99,117,116,46,112,121]) 641), (.int (250) 0), (.int (6) 0), (.int (0) 0), (.int (0) 0), (.int (3) 0), (.ref 351), (.bool true), (.int (181) 0), (.ref 352), .none, (.ref 353), (.ref 354), (.ref 355), (.int (648) 0), (.int (250) 0), (.str (zs [47,99,108,97,105,109,47,99,117,116,46,112,121]) 649)], #[]⟩
noncomputable def o357 : Obj := ⟨.type "function", none, .func fd29, #[]⟩
noncomputable def o363 : Obj := ⟨(.type "code"), none, .fields #[(.str (nm 114) 651), (.str (nm 114) 652), (.str (zs [47,99,108,97,105,109,47,99,117,116,46,112,121]) 653), (.int (267) 0), (.int (1) 0), (.int (0) 0), (.int (0) 0), (.int (3) 0), (.ref 358), (.bool true), (.int (181) 0), (.ref 359), .none, (.ref 360), (.ref 361), (.ref 362), (.int (672) 0), (.int (267) 0), (.str (zs [47,99,108,97,105,109,47,99,117,116,46,112,121]) 673)], #[]⟩
noncomputable def o364 : Obj := ⟨.type "function", none, .func fd30, #[]⟩
noncomputable def K (P : Params) : Frag := [(3, o3 P), (20, o20), (21, o21), (27, o27), (28, o28), (34, o34), (35, o35), (44, o44 P), (45, o45), (57, o57 P), (58, o58), (69, o69 P), (70, o70), (81, o81 P), (82, o82), (93, o93 P), (94, o94), (105, o105 P), (106, o106), (117, o117 P), (118, o118), (129, o129 P), (130, o130), (140, o140), (146, o146), (147, o147), (153, o153), (154, o154), (155, o155), (162, o162), (163, o163), (164, o164), (170, o170), (171, o171), (177, o177), (178, o178), (179, o179), (185, o185), (186, o186), (192, o192), (193, o193), (199, o199), (200, o200), (206, o206), (207, o207), (213, o213), (214, o214), (220, o220), (221, o221), (227, o227), (228, o228), (234, o234), (235, o235), (241, o241), (242, o242), (244, o244 P), (245, o245), (255, o255), (256, o256), (264, o264), (270, o270), (271, o271), (277, o277), (278, o278), (284, o284), (285, o285), (286, o286), (292, o292), (293, o293), (294, o294), (300, o300), (301, o301), (307, o307), (308, o308), (314, o314), (315, o315), (321, o321), (322, o322), (328, o328), (329, o329), (335, o335), (336, o336), (342, o342), (343, o343), (345, o345 P), (346, o346), (356, o356), (357, o357), (363, o363), (364, o364)]
noncomputable def fdTab : List FuncData := [fd0, fd1, fd2, fd3, fd4, fd5, fd6, fd7, fd8, fd9, fd10, fd11, fd12, fd13, fd14, fd15, fd16, fd17, fd18, fd19, fd20, fd21, fd22, fd23, fd24, fd25, fd26, fd27, fd28, fd29, fd30]
noncomputable def kdTab : List (List (Nat × NameKind)) := [kd0, kd1, kd2, kd3, kd4, kd5, kd6, kd7, kd8, kd9, kd10, kd11, kd12, kd13, kd14, kd15, kd16, kd17, kd18, kd19, kd20, kd21, kd22, kd23, kd24, kd25, kd26, kd27, kd28, kd29, kd30]
noncomputable def pqB : List Stmt := [.Assign [.Name (zs [95,95,110,97,109,101,95,95]) ⟨1,0,1,8⟩] (.Constant (.str (zs [112,114,105,111,114,105,116,121,46,112,114,105,111,114,105,116,121])) 0 ⟨1,11,1,30⟩) ⟨1,0,1,30⟩, .FunctionDef (nm 2) (agl ag0 dx0) (b0.dec nm scs) [] none [] sc0 none (nm 2) ⟨2,0,5,28⟩, .FunctionDef (nm 5) (agl ag1 dx1) (b1.dec nm scs) [] none [] sc1 none (nm 5) ⟨6,0,12,23⟩, .FunctionDef (nm 9) (agl ag2 dx2) (b2.dec nm scs) [] none [] sc2 none (nm 9) ⟨13,0,14,23⟩, .ClassDef (nm 11) [(.Name (zs [69,120,99,101,112,116,105,111,110]) ⟨15,20,15,29⟩)] [] [.Pass ⟨16,4,16,8⟩] [] [] (scp .class []) none (nm 11) [] ⟨15,0,16,8⟩, .ClassDef (nm 12) [(.Name (nm 11) ⟨17,20,17,33⟩)] [] [.Pass ⟨18,4,18,8⟩] [] [] (scp .class []) none (nm 12) [] ⟨17,0,18,8⟩, .ClassDef (nm 13) [(.Name (nm 11) ⟨19,19,19,32⟩)] [] [.Pass ⟨20,4,20,8⟩] [] [] (scp .class []) none (nm 13) [] ⟨19,0,20,8⟩, .ClassDef (nm 14) [(.Name (nm 11) ⟨21,27,21,40⟩)] [] [.Pass ⟨22,4,22,8⟩] [] [] (scp .class []) none (nm 14) [] ⟨21,0,22,8⟩, .ClassDef (nm 15) [(.Name (nm 11) ⟨23,25,23,38⟩)] [] [.Pass ⟨24,4,24,8⟩] [] [] (scp .class []) none (nm 15) [] ⟨23,0,24,8⟩, .ClassDef (nm 16) [(.Name (nm 11) ⟨25,26,25,39⟩)] [] [.Pass ⟨26,4,26,8⟩] [] [] (scp .class []) none (nm 16) [] ⟨25,0,26,8⟩, .ClassDef (nm 17) [(.Name (nm 11) ⟨27,21,27,34⟩)] [] [.Pass ⟨28,4,28,8⟩] [] [] (scp .class []) none (nm 17) [] ⟨27,0,28,8⟩, .ClassDef (nm 18) [(.Name (nm 11) ⟨29,24,29,37⟩)] [] [.Pass ⟨30,4,30,8⟩] [] [] (scp .class []) none (nm 18) [] ⟨29,0,30,8⟩, .ClassDef (nm 19) [] [] [.FunctionDef (nm 23) (agl ag3 dx3) (b3.dec nm scs) [] none [] sc3 none (nm 23) ⟨33,4,41,25⟩, .FunctionDef (nm 22) (agl ag4 dx4) (b4.dec nm scs) [(.Name (zs [112,114,111,112,101,114,116,121]) ⟨43,5,43,13⟩)] none [] sc4 none (nm 22) ⟨44,4,45,27⟩, .FunctionDef (nm 22) (agl ag5 dx5) (b5.dec nm scs) [(.Attribute (.Name (nm 22) ⟨47,5,47,11⟩) (zs [115,101,116,116,101,114]) ⟨47,5,47,18⟩)] none [] sc5 none (nm 22) ⟨48,4,53,28⟩, .FunctionDef (nm 37) (agl ag6 dx6) (b6.dec nm scs) [] none [] sc6 none (nm 37) ⟨55,4,58,61⟩, .FunctionDef (nm 38) (agl ag7 dx7) (b7.dec nm scs) [] none [] sc7 none (nm 38) ⟨60,4,67,38⟩, .FunctionDef (nm 42) (agl ag8 dx8) (b8.dec nm scs) [] none [] sc8 none (nm 42) ⟨69,4,80,41⟩, .FunctionDef (nm 48) (agl ag9 dx9) (b9.dec nm scs) [] none [] sc9 none (nm 48) ⟨82,4,104,26⟩, .FunctionDef (nm 53) (agl ag10 dx10) (b10.dec nm scs) [] none [] sc10 none (nm 53) ⟨106,4,107,73⟩, .FunctionDef (nm 55) (agl ag11 dx11) (b11.dec nm scs) [] none [] sc11 none (nm 55) ⟨109,4,112,48⟩, .FunctionDef (nm 56) (agl ag12 dx12) (b12.dec nm scs) [] none [] sc12 none (nm 56) ⟨114,4,115,37⟩, .FunctionDef (nm 57) (agl ag13 dx13) (b13.dec nm scs) [] none [] sc13 none (nm 57) ⟨117,4,120,47⟩, .FunctionDef (nm 59) (agl ag14 dx14) (b14.dec nm scs) [] none [] sc14 none (nm 59) ⟨122,4,125,48⟩, .FunctionDef (nm 60) (agl ag15 dx15) (b15.dec nm scs) [] none [] sc15 none (nm 60) ⟨127,4,130,47⟩, .FunctionDef (nm 61) (agl ag16 dx16) (b16.dec nm scs) [] none [] sc16 none (nm 61) ⟨132,4,135,48⟩] [] [] (scp .class [((nm 23), .local), ((nm 22), .local), ((zs [112,114,111,112,101,114,116,121]), .globalImplicit), ((nm 37), .local), ((nm 38), .local), ((nm 42), .local), ((nm 48), .local), ((nm 53), .local), ((nm 55), .local), ((nm 56), .local), ((nm 57), .local), ((nm 59), .local), ((nm 60), .local), ((nm 61), .local)]) none (nm 19) [(nm 29), (nm 30), (nm 27), (nm 26), (nm 24), (nm 28), (nm 25), (nm 21), (nm 22)] ⟨31,0,135,48⟩, .FunctionDef (nm 64) (agl ag17 dx17) (b17.dec nm scs) [] none [] sc17 none (nm 64) ⟨136,0,144,81⟩, .ClassDef (nm 68) [] [] [.FunctionDef (nm 23) (agl ag18 dx18) (b18.dec nm scs) [] none [] sc18 none (nm 23) ⟨147,4,155,47⟩, .FunctionDef (nm 78) (agl ag19 dx19) (b19.dec nm scs) [] none [] sc19 none (nm 78) ⟨157,4,163,50⟩, .FunctionDef (nm 84) (agl ag20 dx20) (b20.dec nm scs) [] none [] sc20 none (nm 84) ⟨165,4,166,58⟩, .FunctionDef (nm 80) (agl ag21 dx21) (b21.dec nm scs) [] none [] sc21 none (nm 80) ⟨168,4,185,41⟩, .FunctionDef (nm 90) (agl ag22 dx22) (b22.dec nm scs) [] none [] sc22 none (nm 90) ⟨187,4,210,48⟩, .FunctionDef (nm 96) (agl ag23 dx23) (b23.dec nm scs) [] none [] sc23 none (nm 96) ⟨212,4,220,34⟩, .FunctionDef (nm 81) (agl ag24 dx24) (b24.dec nm scs) [] none [] sc24 none (nm 81) ⟨222,4,228,73⟩, .FunctionDef (nm 99) (agl ag25 dx25) (b25.dec nm scs) [] none [] sc25 none (nm 99) ⟨230,4,236,73⟩, .FunctionDef (nm 101) (agl ag26 dx26) (b26.dec nm scs) [] none [] sc26 none (nm 101) ⟨238,4,239,19⟩, .FunctionDef (nm 102) (agl ag27 dx27) (b27.dec nm scs) [] none [] sc27 none (nm 102) ⟨241,4,245,68⟩, .FunctionDef (nm 104) (agl ag28 dx28) (b28.dec nm scs) [] none [] sc28 none (nm 104) ⟨247,4,248,30⟩] [] [] (scp .class [((nm 23), .local), ((nm 78), .local), ((nm 84), .local), ((nm 80), .local), ((nm 90), .local), ((nm 96), .local), ((nm 81), .local), ((nm 99), .local), ((nm 101), .local), ((nm 102), .local), ((nm 104), .local)]) none (nm 68) [(nm 76), (nm 70), (nm 71)] ⟨145,0,248,30⟩, .Assign [.Name (zs [95,95,110,97,109,101,95,95]) ⟨249,0,249,8⟩] (.Constant (.str (zs [108,97,119,95,105,118,48,48,51,53,95,48,53])) 0 ⟨249,11,249,26⟩) ⟨249,0,249,26⟩, .FunctionDef (nm 110) (agl ag29 dx29) (b29.dec nm scs) [] none [] sc29 none (nm 110) ⟨250,0,266,23⟩, .FunctionDef (nm 114) (agl ag30 dx30) (b30.dec nm scs) [] none [] sc30 none (nm 114) ⟨267,0,313,15⟩]
noncomputable def pq : Program := { main := { body := pqB, scope := (scp .module [((zs [95,95,110,97,109,101,95,95]), .local), ((nm 2), .local), ((nm 5), .local), ((nm 9), .local), ((nm 11), .local), ((zs [69,120,99,101,112,116,105,111,110]), .globalImplicit), ((nm 12), .local), ((nm 13), .local), ((nm 14), .local), ((nm 15), .local), ((nm 16), .local), ((nm 17), .local), ((nm 18), .local), ((nm 19), .local), ((nm 64), .local), ((nm 68), .local), ((nm 110), .local), ((nm 114), .local)]), futureAnnotations := false, file := zs [47,99,108,97,105,109,47,99,117,116,46,112,121] }, modules := [], parses := [], absent := [], given := { argv := [], stdin := [], environ := (some [([76, 67, 95, 65, 76, 76], [67, 46, 85, 84, 70, 45, 56])]) } }
noncomputable def kAs : List Addr := [3, 20, 21, 27, 28, 34, 35, 44, 45, 57, 58, 69, 70, 81, 82, 93, 94, 105, 106, 117, 118, 129, 130, 140, 146, 147, 153, 154, 155, 162, 163, 164, 170, 171, 177, 178, 179, 185, 186, 192, 193, 199, 200, 206, 207, 213, 214, 220, 221, 227, 228, 234, 235, 241, 242, 244, 245, 255, 256, 264, 270, 271, 277, 278, 284, 285, 286, 292, 293, 294, 300, 301, 307, 308, 314, 315, 321, 322, 328, 329, 335, 336, 342, 343, 345, 346, 356, 357, 363, 364]
theorem pq_eq : PySem.Challenge.pw_iv0035_05 = pq := by kernel_rfl
end Mine
end
section
open PySem PySem.W PyProof.Rows
set_option maxHeartbeats 0
namespace Mine
noncomputable section
abbrev pr : Program := pq
abbrev p0 : Pos := ⟨0, 0, 0, 0⟩
abbrev kkA : List Addr := kAs
structure Run where
 p : Program
 lo : List Str
 ks : List Addr
 K : Params → Frag
variable (X : Run)
def vwX : Program := view X.p [17]
def env0X : Env := { scope := X.p.main.scope, locals := mainNs, globals := mainNs, cells := [], code := .ref 13, frame := some 14 }
abbrev cEX : Code := .body (behindTheImports X.p) (env0X X)
def tRun (w : World) (os : OsState) := topGo treeTable X.p w 11 (some (.ref 6)) 12 ⟨boot_heap w.params, #[], boot_drawn, boot_toks, os⟩ (topStub X.p)
def hA (P : Params) : Heap := match tRun X ⟨fun _ _ => 0, P⟩ {} with | some (s, _) => s.heap | none => {}
def oA (P : Params) (i : Nat) : Obj := (hA X P).objs.getD i default
def T0 (P : Params) : BT := (.node (boot_o_0 P) (.node (boot_o_1 P) (.node (boot_o_3 P) (.node (boot_o_7 P) .nil .nil) (.node (oA X P 11) .nil .nil)) (.node (boot_o_5 P) (.node (boot_o_9 P) .nil .nil) (.node (oA X P 13) .nil .nil))) (.node (boot_o_2 P) (.node (boot_o_4 P) (.node (boot_o_8 P) .nil .nil) (.node (oA X P 12) .nil .nil)) (.node (boot_o_6 P) (.node (boot_o_10 P) .nil .nil) (.node (oA X P 14) .nil .nil))))
def S0 (w : World) (os : OsState) : SharedT := ⟨T0 X w.params, 15, {}, #[], {}, 187, os⟩
def preR (w : World) (os : OsState) := some ((S0 X w os).abs, (⟨denote treeTable (cEX X), cEX X, p0, [topFrame p0]⟩ : Thread))
def XtX (s : Shared) : Bool := xlAt (vwX X) [] s && recOk [] s
def h0 (P : Params) : Heap := boot_heap P
def looksX (w : World) (s : Shared) : Bool := staticsOk (importedModules X.p.main.body) (boot_heap w.params) s.heap && namesBound X.p s.heap && gensDone s && laidKept (boot_heap w.params) s.heap
def isD (o : Obj) : Bool := match o.data with | .dict .. => true | _ => false
def YfX (s : Shared) := (X.ks.map s.heap.get?, (s.heap.get? 1).any isD)
def YaX (w : World) := ((X.K w.params).map fun p => some p.2, true)
def L (w : World) (os : OsState) := (segRunT treeTable X.p w 11 (some (.ref 6)) 1 3600 (S0 X w os) (piecesOf (behindTheImports X.p) (env0X X) (cEX X) p0 [topFrame p0])).map
  (fun r => (r.1, r.2.2.1, looksX X w r.2.1.abs, openSeen (vwX X) X.lo (importedModules X.p.main.body) (XtX X) true r.2.1.abs, YfX X r.2.1.abs))
def Rr (w : World) (_os : OsState) := some (Flow.next, cEX X, true, openGood (vwX X) X.lo, YaX X w)
end
def kk {α : Type} (_ : α) : Bool := true
theorem dummy : (kk tRun && kk preR && kk L && kk Rr) = true := by k_qdec
noncomputable section
def loose : List Str := [2, 5, 9, 11, 12, 13, 14, 15, 16, 17, 18, 19, 64, 68, 110].map nm
def rX : Run := ⟨pq, loose, kAs, K⟩
abbrev vw := vwX rX
abbrev env0 := env0X rX
abbrev cE := cEX rX
abbrev Xt := XtX rX
abbrev looks := looksX rX
abbrev Yf := YfX rX
abbrev Ya := YaX rX
end
theorem pre_ok (w : World) (os : OsState) : tRun rX w os = preR rX w os :=
 (congrFun (congrFun (congrFun PySem.W.Fast.te4710584663710115324 rX) w) os).trans
  ((show _ = PySem.W.Fast.tw17653279219239862775 rX w os by kernel_rfl).trans (congrFun (congrFun (congrFun PySem.W.Fast.te17653279219239862775 rX) w) os).symm)
theorem run_ok (w : World) (os : OsState) : L rX w os = Rr rX w os :=
 (congrFun (congrFun (congrFun PySem.W.Fast.te13209459037748810971 rX) w) os).trans
  ((show _ = PySem.W.Fast.tw10988778683140452701 rX w os by kernel_rfl).trans (congrFun (congrFun (congrFun PySem.W.Fast.te10988778683140452701 rX) w) os).symm)
theorem top_fin (w : World) (s : Shared) (p : Pos) : topRun treeTable pr w 11 (some (.ref 6)) 2 s ⟨doneF .next, cE, p, [topFrame p0]⟩ = some s := by
 rfl
theorem size_ok (w : World) : ((boot_heap w.params).isNs mainGlobals && (#[] : Array GenState).size == 0) = true ∧ (boot_heap w.params).objs.size = 11 ∧ (boot_heap w.params).nsMap mainGlobals "__annotations__" = some (.ref 6) := by
 refine ⟨by kernel_rfl, by kernel_rfl, by kernel_rfl⟩
theorem open_ok (w : World) : (fencedOpening treeTable pr w 8000).map (fun s => (s.heap, s.gens, s.drawn, s.toks)) = some (boot_heap w.params, Array.mk [], boot_drawn, boot_toks) :=
 boot_open (by kernel_rfl) (by kernel_rfl) (fun s => by kernel_rfl) w
theorem kAs_eq (P : Params) : kAs = (K P).map (·.1) := rfl
def YP (w : World) (h : Heap) : Prop := InK K w h ∧ (h.get? 1).any isD = true
theorem YP.of (w : World) (s : Shared) (e : Yf s = Ya w) : YP w s.heap := ⟨InK.of kAs_eq w s (congrArg (·.1) e), congrArg (·.2) e⟩
theorem YP.keeps (w : World) (h h' : Heap) (x : YP w h) (k : ∀ b o, h.get? b = some o → h'.get? b = some o) : YP w h' :=
 ⟨InK.keeps w h h' x.1 k, by
  have z := x.2
  cases e : h.get? 1 with
  | none => rw [e] at z; cases z
  | some o => rw [e] at z; rw [k _ _ e]; exact z⟩
theorem YP.sm {w : World} {h : Heap} (x : YP w h) : ∃ o es n, h.get? sysModules = some o ∧ o.data = .dict es n := by
 have z := x.2
 cases e : h.get? 1 with
 | none => rw [e] at z; cases z
 | some o =>
  rw [e] at z
  have z : isD o = true := z
  unfold isD at z
  split at z
  ·rename_i es n q; exact ⟨o, es, n, e, q⟩
  ·cases z
theorem topFrom_of {tb : String → Option Builtin} {p : Program} {w : World} {N n₀ : Nat} {ann : Option Value} {s₀ s₁ : Shared} (e0 : (s₀.heap.isNs mainGlobals && s₀.gens.size == 0) = true) (e1 : s₀.heap.objs.size = n₀) (e2 : s₀.heap.nsMap mainGlobals "__annotations__" = ann) (h : topRun tb p w n₀ ann N s₀ (topStub p) = some s₁) (l : (staticsOk (importedModules p.main.body) s₀.heap s₁.heap && namesBound p s₁.heap && gensDone s₁ && laidKept s₀.heap s₁.heap) = true) : topFrom tb p w N s₀ = some s₁ := by
 subst e1 e2
 unfold topFrom
 rw [e0]
 dsimp only
 rw [h, Option.bind_some, l]
theorem left : LeftO pr vw loose Xt Yf Ya 8000 := fun w => by
 obtain ⟨⟨h, gs, d, k, os⟩, e, e'⟩ := Option.map_eq_some_iff.mp (open_ok w)
 obtain ⟨rfl, rfl, rfl, rfl⟩ : h = boot_heap w.params ∧ gs = #[] ∧ d = boot_drawn ∧ k = boot_toks := by simpa using e'
 obtain ⟨z1, z2, z3⟩ := size_ok w
 obtain ⟨r, hr, hf⟩ := Option.map_eq_some_iff.mp (run_ok w os)
 obtain ⟨fl, s', c, p'⟩ := r
 obtain ⟨q1, hf⟩ := Prod.mk.inj hf
 obtain ⟨q2, hf⟩ := Prod.mk.inj hf
 obtain ⟨q3, hf⟩ := Prod.mk.inj hf
 obtain ⟨q4, q5⟩ := Prod.mk.inj hf
 subst q1 q2
 have a1 := piece_app (rest := []) (segRun_of hr) (piece_nil (env := env0X rX) (top_fin w s'.abs p'))
 rw [List.append_nil] at a1
 have a2 := piece_block (env := env0X rX) (q := p0) (n := 1) (p := rX.p) (w := w) (n₀ := 11) (ann := some (.ref 6)) (tb := treeTable) (c := cEX rX) (pos := p0) (p' := p0) (s := (S0 rX w os).abs) (s' := (S0 rX w os).abs) (b := behindTheImports rX.p) (by kernel_rfl) a1
 have a3 := go_top (pre_ok w os) a2
 have a4 : topRun treeTable pr w 11 (some (.ref 6)) (12 + (1 + (3600 + 2)) + (8000 - 3615)) ⟨boot_heap w.params, #[], boot_drawn, boot_toks, os⟩ (topStub pr) = some s'.abs := topRun_mono (8000 - 3615) _ _ _ _ a3
 have hN : 12 + (1 + (3600 + 2)) + (8000 - 3615) = 8000 := rfl
 rw [hN] at a4
 have t := topFrom_of z1 z2 z3 a4 q3
 unfold openEnds
 rw [e]
 rw [Option.bind_some, t]
 exact congrArg some (Prod.ext q4 q5)
end Mine
end
section
open PySem PySem.W PyProof.Rows PySem.Calls
namespace Mine
theorem xm_aeaa {α0 : Sort _} {A0 : Prop} {A1 : α0 → Prop} {A2 : α0 → Prop} {p : Prop} (h : A0 ∧ ∃ x0, A1 x0 ∧ A2 x0) (k : A0 → ∀ x0, A1 x0 → A2 x0 → p) : p := by obtain ⟨h0, x0, h1, h2⟩ := h; exact k h0 x0 h1 h2
theorem xm_eaaea {α0 : Sort _} {α1 : Sort _} {A0 : α0 → Prop} {A1 : α0 → Prop} {A2 : α0 → α1 → Prop} {p : Prop} (h : ∃ x0, A0 x0 ∧ A1 x0 ∧ ∃ x1, A2 x0 x1) (k : ∀ x0, A0 x0 → A1 x0 → ∀ x1, A2 x0 x1 → p) : p := by obtain ⟨x0, h0, h1, x1, h2⟩ := h; exact k x0 h0 h1 x1 h2
theorem xm_aeaaa {α0 : Sort _} {A0 : Prop} {A1 : α0 → Prop} {A2 : α0 → Prop} {A3 : α0 → Prop} {p : Prop} (h : A0 ∧ ∃ x0, A1 x0 ∧ A2 x0 ∧ A3 x0) (k : A0 → ∀ x0, A1 x0 → A2 x0 → A3 x0 → p) : p := by obtain ⟨h0, x0, h1, h2, h3⟩ := h; exact k h0 x0 h1 h2 h3
theorem xm_aaeaa {α0 : Sort _} {A0 : Prop} {A1 : Prop} {A2 : α0 → Prop} {A3 : α0 → Prop} {p : Prop} (h : A0 ∧ A1 ∧ ∃ x0, A2 x0 ∧ A3 x0) (k : A0 → A1 → ∀ x0, A2 x0 → A3 x0 → p) : p := by obtain ⟨h0, h1, x0, h2, h3⟩ := h; exact k h0 h1 x0 h2 h3
theorem xm_aaaaeaa {α0 : Sort _} {A0 : Prop} {A1 : Prop} {A2 : Prop} {A3 : Prop} {A4 : α0 → Prop} {A5 : α0 → Prop} {p : Prop} (h : A0 ∧ A1 ∧ A2 ∧ A3 ∧ ∃ x0, A4 x0 ∧ A5 x0) (k : A0 → A1 → A2 → A3 → ∀ x0, A4 x0 → A5 x0 → p) : p := by obtain ⟨h0, h1, h2, h3, x0, h4, h5⟩ := h; exact k h0 h1 h2 h3 x0 h4 h5
theorem nsE {α : Type _} {a : α} {p : Prop} (h : none = some a) : p := nomatch h
theorem snE {α : Type _} {a : α} {p : Prop} (h : some a = none) : p := nomatch h
theorem ftE {p : Prop} (h : false = true) : p := nomatch h
theorem tfE {p : Prop} (h : true = false) : p := nomatch h
structure Wd where
 prog : Program
 w : World
 K : Frag
 hb : Heap
 nm : Nat → Str
 sc : Nat → Scope
 g : Sig
 gl : Nat → Bool
 gv : Nat → Value
 fa : Nat → Addr
 ca : Nat → Addr
 scr : Obj
section rel
variable (W : Wd) (β δ : Nat → Addr) (n : Nat)
noncomputable def VR (v : AV) (V : Value) : Prop := match v with
 | .none => V = .none
 | .bool b => V = .bool b
 | .int i => ∃ t, V = .int i t
 | .str k => ∃ t, V = .str (W.nm k) t
 | .msg => ∃ s t, V = .str s t
 | .gl k => V = W.gv k
 | .loc l => l < n ∧ V = .ref (β l)
inductive VRs : List AV → List Value → Prop
 | nil : VRs [] []
 | cons {v V vs Vs} : VR W β n v V → VRs vs Vs → VRs (v :: vs) (V :: Vs)
inductive DRs : List (AV × AV) → List (Int × Value) → Prop
 | nil : DRs [] []
 | cons {i v V es ds} : VR W β n v V → DRs es ds → DRs ((.int i, v) :: es) ((i, V) :: ds)
inductive ARs : List (Nat × AV) → List DictEntry → Prop
 | nil : ARs [] []
 | cons {a h t v V es ds} : VR W β n v V → (∀ x, get? es a ≠ some x) → ARs es ds → ARs ((a, v) :: es) (⟨h, .str (W.nm a) t, V⟩ :: ds)
abbrev tupOf (vs : List Value) : Obj := { cls := .type "tuple", data := .seq vs.toArray }
abbrev rngOf (k : Int) (t u v : Tok) : Obj := { cls := .type "range", data := .fields #[.int 0 t, .int k u, .int 1 v] }
inductive Seqd (xs : List AV) (P : List Value → Nat → Prop) : Prop
 | intro (Vs : List Value) (ep : Nat) (p : P Vs ep) (a : VRs W β n xs Vs) (l : xs.length ≤ 100000)
inductive Tupd (xs : List AV) (P : List Value → Prop) : Prop
 | intro (Vs : List Value) (p : P Vs) (a : VRs W β n xs Vs) (l : xs.length ≤ 100000)
inductive Dictd (es : List (AV × AV)) (P : List (Int × Value) → Prop) : Prop
 | intro (ds : List (Int × Value)) (p : P ds) (a : DRs W β n es ds) (l : es.length ≤ 100000)
inductive Instd (as : List (Nat × AV)) (P : List DictEntry → Nat → Prop) : Prop
 | intro (ds : List DictEntry) (ep : Nat) (p : P ds ep) (a : ARs W β n as ds) (l : as.length ≤ 21)
noncomputable def ObjAt (h : Heap) (l : Nat) (o : AO) : Prop := match o with
 | .list xs => Seqd W β n xs fun Vs ep => h.get? (β l) = some (listOf (List.toArray Vs) ep)
 | .tup xs => Tupd W β n xs fun Vs => h.get? (β l) = some (tupOf Vs)
 | .dict es => Dictd W β n es fun ds => h.DictOf (intKind W.prog W.w) (β l) ds
 | .inst c as => h.get? (β l) = some (instObj (W.ca c) (δ l)) ∧ Instd W β n as fun ds ep => h.get? (δ l) = some (dictOf ds ep)
 | .rng k => (∃ t u v, h.get? (β l) = some (rngOf k t u v)) ∧ 0 ≤ k ∧ k ≤ 1000
 | .ro xs => Seqd W β n xs fun Vs ep => (W.scr.cls = .type "list" ∧ W.scr.data = .seq (List.toArray Vs) ep) ∧ h.get? (β l) = some W.scr
end rel
structure Rel (W : Wd) (β δ : Nat → Addr) (st : St) (h : Heap) : Prop where
 some_lt : ∀ l o, st.heap l = some o → l < st.next
 lt_some : ∀ l, l < st.next → ∃ o, st.heap l = some o
 obj : ∀ l o, st.heap l = some o → ObjAt W β δ st.next h l o
 bb : ∀ l l', l < st.next → l' < st.next → β l = β l' → l = l'
 dd : ∀ l l', l < st.next → l' < st.next → δ l = δ l' → l = l'
 bd : ∀ l l', l < st.next → l' < st.next → β l = δ l' → l = l'
 base : ∀ l, l < st.next → W.hb.get? (β l) = none ∧ W.hb.get? (δ l) = none
 live : ∀ l, l < st.next → (∃ o, h.get? (β l) = some o) ∧ ∃ o, h.get? (δ l) = some o
structure Fx where
 A : Around
 env : Env
 outer : List Env
 L : Addr
 kd : List (Nat × NameKind)
noncomputable def Fx.frs (fx : Fx) : List Addr := (fx.env :: fx.outer).filterMap (·.frame)
noncomputable def own (β δ : Nat → Addr) (n : Nat) (b : Addr) : Prop := ∃ l, l < n ∧ (b = β l ∨ b = δ l)
noncomputable def Free (fx : Fx) (β δ : Nat → Addr) (n : Nat) (b : Addr) : Prop := ¬ own β δ n b ∧ b ∉ fx.frs
structure ExcSt (fr : Addr → Prop) (h : Heap) (e : Addr) (cls : Value) (clean : Bool) (h₀ : Heap) : Prop where
 new : h₀.get? e = none
 free : fr e
 obj : ∃ oe vs, h.get? e = some oe ∧ oe.cls = cls ∧ oe.data = .fields vs ∧ 4 < vs.size ∧ (clean = true → vs[2]? = some .none) ∧
  (vs[1]? = some .none ∨ ∃ T oT ts, vs[1]? = some (.ref T) ∧ h₀.get? T = none ∧ fr T ∧ T ≠ e ∧ h.get? T = some oT ∧ oT.data = .fields ts ∧ 3 < ts.size)
noncomputable def Traced (h : Heap) (e : Addr) : Prop := ∃ oe vs T, h.get? e = some oe ∧ oe.data = .fields vs ∧ vs[1]? = some (.ref T)
noncomputable def Held (h : Heap) (e : Addr) : Prop := ∃ oe vs, h.get? e = some oe ∧ oe.data = .fields vs ∧ 4 < vs.size ∧ vs[2]? = some .none
structure FxOk (W : Wd) (fx : Fx) : Prop where
 frames : fx.A.frames = some (fx.env :: fx.outer)
 frame : fx.env.frame = some fx.L
 locals : fx.env.locals = fx.L
 kind : fx.env.scope.kind = .function
 above : W.hb.objs.size ≤ fx.L
 names : fx.env.scope.names = fx.kd.map fun x => (W.nm x.1, x.2)
 globals : fx.env.globals = mainGlobals
 builtins : fx.env.builtins = builtinsNs
structure Inv (W : Wd) (fx : Fx) (β δ : Nat → Addr) (st : St) (h : Heap) : Prop where
 ok : FxOk W fx
 rel : Rel W β δ st h
 loc : ∃ m, h.Ns fx.L m ∧ ∀ i v, get? st.loc i = some v → ∃ V, m (W.nm i) = some V ∧ VR W β st.next v V
 stays : W.hb.StaysIn h
 ff : h.FunFrames {} (fx.env :: fx.outer)
 apart : ∀ b ∈ fx.frs, ¬ own β δ st.next b
 basefr : ∀ b ∈ fx.frs, W.hb.get? b = none
 hd : match st.hd with
  | 0 => fx.A.handled = none
  | 1 => ∃ e, fx.A.handled = some (.ref e) ∧ Held h e ∧ Free fx β δ st.next e
  | _ => ∃ e, fx.A.handled = some (.ref e)
structure Go (fx : Fx) (β δ : Nat → Addr) (st : St) (h : Heap) (β' δ' : Nat → Addr) (st' : St) (h' : Heap) : Prop where
 next : st.next ≤ st'.next
 same : ∀ l, l < st.next → β' l = β l ∧ δ' l = δ l
 new : ∀ l, st.next ≤ l → l < st'.next → h.get? (β' l) = none ∧ h.get? (δ' l) = none
 keep : ∀ b o, h.get? b = some o → ¬ own β δ st.next b → b ∉ fx.frs → h'.get? b = some o
 frames : ∀ b ∈ fx.frs, b ≠ fx.L → ∀ o, h.get? b = some o → ∃ sl, h'.get? b = some { o with slots := sl }
 hd : st'.hd = st.hd
 live : ∀ b o, h.get? b = some o → ∃ o', h'.get? b = some o'
structure Room (fx : Fx) (d u : Nat) : Prop where
 depth : fx.A.depth + d < recursionLimit
 units : fx.A.units + u < cLine
abbrev Good (α τ : Type) := (Nat → Addr) → (Nat → Addr) → St → α → τ → Prop
inductive After {α τ : Type} (W : Wd) (fx : Fx) (β δ : Nat → Addr) (st : St) (s : Shared) (r : R α) (good : Good α τ) (x : τ) (s' : Shared) : Prop
 | intro (v : α) (st' : St) (β' δ' : Nat → Addr) (e : r = .ok v st') (g : good β' δ' st' v x) (h : Inv W fx β' δ' st' s'.heap ∧ Go fx β δ st s.heap β' δ' st' s'.heap ∧ s' = { s with heap := s'.heap, toks := s'.toks })
inductive Raised {α : Type} (W : Wd) (fx : Fx) (β δ : Nat → Addr) (st : St) (s : Shared) (r : R α) (x : Value) (s' : Shared) : Prop
 | intro (c : Nat) (cl : Bool) (st' : St) (β' δ' : Nat → Addr) (e : Addr) (hr : r = .ex c cl st') (h : x = .ref e ∧ ExcSt (Free fx β' δ' st'.next) s'.heap e (W.gv c) cl s.heap ∧ Inv W fx β' δ' st' s'.heap ∧ Go fx β δ st s.heap β' δ' st' s'.heap ∧ s' = { s with heap := s'.heap, toks := s'.toks })
noncomputable def Ok {α τ : Type} (W : Wd) (fx : Fx) (t : Sem τ) (β δ : Nat → Addr) (st : St) (r : R α) (good : Good α τ) : Prop :=
 r ≠ .bad → ∀ s : Shared, Inv W fx β δ st s.heap → wpAny (model W.prog W.w) fx.A t (After W fx β δ st s r good) (Raised W fx β δ st s r) s
section
variable {W : Wd} {fx : Fx} {β δ β' δ' β₁ δ₁ : Nat → Addr} {st st' st₁ : St} {h h' h₁ : Heap} {n n' : Nat}
theorem VR.mono {v : AV} {V : Value} (x : VR W β n v V) (hn : n ≤ n') (hs : ∀ l, l < n → β' l = β l) : VR W β' n' v V := by
 cases v <;> try exact x
 case loc l => exact ⟨Nat.lt_of_lt_of_le x.1 hn, by rw [hs l x.1]; exact x.2⟩
theorem VRs.mono {vs : List AV} {Vs : List Value} (x : VRs W β n vs Vs) (hn : n ≤ n') (hs : ∀ l, l < n → β' l = β l) : VRs W β' n' vs Vs := by
 induction x with
 | nil => exact .nil
 | cons a _ ih => exact .cons (a.mono hn hs) ih
theorem DRs.mono {es : List (AV × AV)} {ds : List (Int × Value)} (x : DRs W β n es ds) (hn : n ≤ n') (hs : ∀ l, l < n → β' l = β l) : DRs W β' n' es ds := by
 induction x with
 | nil => exact .nil
 | cons a _ ih => exact .cons (a.mono hn hs) ih
theorem ARs.mono {es : List (Nat × AV)} {ds : List DictEntry} (x : ARs W β n es ds) (hn : n ≤ n') (hs : ∀ l, l < n → β' l = β l) : ARs W β' n' es ds := by
 induction x with
 | nil => exact .nil
 | cons a b _ ih => exact .cons (a.mono hn hs) b ih
theorem ObjAt.mono {l : Nat} {o : AO} (x : ObjAt W β δ n h l o) (hn : n ≤ n') (hl : l < n) (hs : ∀ l, l < n → β' l = β l ∧ δ' l = δ l)
  (hb : h'.get? (β l) = h.get? (β l)) (hd : h'.get? (δ l) = h.get? (δ l)) : ObjAt W β' δ' n' h' l o := by
 have hs1 : ∀ l, l < n → β' l = β l := fun l hl => (hs l hl).1
 cases o with
 | list xs => obtain ⟨Vs, ep, a, b, c⟩ := x; exact ⟨Vs, ep, by rw [(hs l hl).1, hb]; exact a, b.mono hn hs1, c⟩
 | tup xs => obtain ⟨Vs, a, b, c⟩ := x; exact ⟨Vs, by rw [(hs l hl).1, hb]; exact a, b.mono hn hs1, c⟩
 | dict es => obtain ⟨ds, ⟨o, es, ep, a, r⟩, b, c⟩ := x; exact ⟨ds, ⟨o, es, ep, by rw [(hs l hl).1, hb]; exact a, r⟩, b.mono hn hs1, c⟩
 | inst c as =>
  obtain ⟨a, ds, ep, b, d, e⟩ := x
  exact ⟨by rw [(hs l hl).1, (hs l hl).2, hb]; exact a, ds, ep, by rw [(hs l hl).2, hd]; exact b, d.mono hn hs1, e⟩
 | rng k => obtain ⟨⟨t, u, v, a⟩, b⟩ := x; exact ⟨⟨t, u, v, by rw [(hs l hl).1, hb]; exact a⟩, b⟩
 | ro xs => obtain ⟨Vs, ep, ⟨a0, a⟩, b, c⟩ := x; exact ⟨Vs, ep, ⟨a0, by rw [(hs l hl).1, hb]; exact a⟩, b.mono hn hs1, c⟩
theorem Go.refl (hh : st'.next = st.next) (hd : st'.hd = st.hd) : Go fx β δ st h β δ st' h :=
 ⟨Nat.le_of_eq hh.symm, fun _ _ => ⟨rfl, rfl⟩, fun l a b => absurd b (by omega), fun _ _ e _ _ => e, fun _ _ _ o e => ⟨o.slots, e⟩, hd, fun _ o e => ⟨o, e⟩⟩
theorem own.mono {b : Addr} (x : own β δ n b) (hn : n ≤ n') (hs : ∀ l, l < n → β' l = β l ∧ δ' l = δ l) : own β' δ' n' b := by
 refine xo1_2 x fun l hl e => ?_; clear x
 exact ⟨l, Nat.lt_of_lt_of_le hl hn, by rw [(hs l hl).1, (hs l hl).2]; exact e⟩
theorem Go.none (x : Go fx β δ st h β' δ' st' h') (b : Addr) (e : h'.get? b = Option.none) : h.get? b = Option.none := by
 cases q : h.get? b with
 | none => rfl
 | some o => obtain ⟨o', e'⟩ := x.live b o q; rw [e] at e'; cases e'
theorem Go.own_old (x : Go fx β δ st h β' δ' st' h') {b : Addr} (hb : h.get? b ≠ Option.none) (y : own β' δ' st'.next b) : own β δ st.next b := by
 refine xo1_2 y fun l hl e => ?_; clear y
 by_cases q : l < st.next
 ·exact ⟨l, q, by rw [← (x.same l q).1, ← (x.same l q).2]; exact e⟩
 ·have := x.new l (Nat.le_of_not_lt q) hl
  rcases e with e | e
  ·exact absurd (e ▸ this.1) hb
  ·exact absurd (e ▸ this.2) hb
theorem Go.trans (x : Go fx β δ st h β' δ' st' h') (y : Go fx β' δ' st' h' β₁ δ₁ st₁ h₁) : Go fx β δ st h β₁ δ₁ st₁ h₁ where
 next := Nat.le_trans x.next y.next
 same l hl := by
  have a := x.same l hl
  have b := y.same l (Nat.lt_of_lt_of_le hl x.next)
  exact ⟨b.1.trans a.1, b.2.trans a.2⟩
 new l h1 h2 := by
  by_cases q : l < st'.next
  ·have a := x.new l h1 q
   have b := y.same l q
   rw [b.1, b.2]; exact a
  ·have a := y.new l (Nat.le_of_not_lt q) h2
   exact ⟨x.none _ a.1, x.none _ a.2⟩
 keep b o e no nf := y.keep b o (x.keep b o e no nf) (fun q => no (x.own_old (by rw [e]; nofun) q)) nf
 frames b hb hL o e := by
  refine xo1_1 (x.frames b hb hL o e) fun s1 e1 => ?_
  refine xo1_1 (y.frames b hb hL _ e1) fun s2 e2 => ?_
  exact ⟨s2, e2⟩
 hd := y.hd.trans x.hd
 live b o e := let ⟨_, e1⟩ := x.live b o e; y.live b _ e1
theorem ExcSt.mono {fr fr' : Addr → Prop} {e : Addr} {cls : Value} {cl : Bool} {h₀ h₀' : Heap} (x : ExcSt fr h e cls cl h₀) (hl : ∀ b, h₀.get? b = none → h₀'.get? b = none) (hf : ∀ b, fr b → fr' b) : ExcSt fr' h e cls cl h₀' := by
 refine xo2_6 x.obj fun oe vs a1 a2 a3 a4 a5 a6 => ?_
 refine ⟨hl _ x.new, hf _ x.free, oe, vs, a1, a2, a3, a4, a5, a6.imp id ?_⟩
 rintro ⟨T, oT, ts, b1, b2, b3, b4⟩
 exact ⟨T, oT, ts, b1, hl _ b2, hf _ b3, b4⟩
theorem same_trans {s s' s'' : Shared} (x : s' = { s with heap := s'.heap, toks := s'.toks }) (y : s'' = { s' with heap := s''.heap, toks := s''.toks }) : s'' = { s with heap := s''.heap, toks := s''.toks } := by
 rw [y, x]
theorem After.trans {υ ρ : Type} {s s' s'' : Shared} {q : R υ} {good : Good υ ρ} {x : ρ} (g : Go fx β δ st s.heap β' δ' st' s'.heap) (e : s' = { s with heap := s'.heap, toks := s'.toks })
  (a : After W fx β' δ' st' s' q good x s'') : After W fx β δ st s q good x s'' := by
 obtain ⟨v, st₁, β₁, δ₁, e1, e2, e3, e4, e5⟩ := a
 exact ⟨v, st₁, β₁, δ₁, e1, e2, e3, g.trans e4, same_trans e e5⟩
theorem Raised.trans {υ : Type} {s s' s'' : Shared} {q : R υ} {x : Value} (g : Go fx β δ st s.heap β' δ' st' s'.heap) (e : s' = { s with heap := s'.heap, toks := s'.toks })
  (a : Raised W fx β' δ' st' s' q x s'') : Raised W fx β δ st s q x s'' := by
 obtain ⟨c, cl, st₁, β₁, δ₁, ad, e1, e2, e3, e4, e5, e6⟩ := a
 exact ⟨c, cl, st₁, β₁, δ₁, ad, e1, e2, e3.mono g.none fun _ z => z, e4, g.trans e5, same_trans e e6⟩
variable {α τ υ ρ : Type}
theorem Ok.bind {t : Sem τ} {k : τ → Sem ρ} {r : R α} {f : α → St → R υ} {good : Good α τ} {good' : Good υ ρ} (a : Ok W fx t β δ st r good)
  (b : ∀ v st' β' δ' x, r = .ok v st' → good β' δ' st' v x → st.next ≤ st'.next → (∀ l, l < st.next → β' l = β l ∧ δ' l = δ l) → Ok W fx (k x) β' δ' st' (f v st') good') :
  Ok W fx (t >>= k) β δ st (r.bnd f) good' := fun nb s inv => by
 refine wpAny_bind (wpAny_mono (a (fun q => nb (by rw [q]; rfl)) s inv) (fun x s' p => ?_) fun e s' p => ?_)
 ·obtain ⟨v, st', β', δ', e1, e2, e3, e4, e5⟩ := p
  subst e1
  exact wpAny_mono (b v st' β' δ' x rfl e2 e4.next e4.same nb s' e3) (fun y s'' q => After.trans e4 e5 q) fun y s'' q => Raised.trans e4 e5 q
 ·obtain ⟨c, cl, st₁, β₁, δ₁, ad, e1, e2, e3, e4, e5, e6⟩ := p
  subst e1
  exact ⟨c, cl, st₁, β₁, δ₁, ad, rfl, e2, e3, e4, e5, e6⟩
end
section
variable {W : Wd} {fx : Fx} {β δ β' δ' : Nat → Addr} {st : St} {h h' : Heap} {l : Nat} {o o' : AO}
theorem Rel.low (x : Rel W β δ st h) (l : Nat) (hl : l < st.next) : β l < h.objs.size ∧ δ l < h.objs.size :=
 let ⟨⟨_, e⟩, _, e'⟩ := x.live l hl; ⟨Heap.lt_size e, Heap.lt_size e'⟩
theorem mem_frs (ok : FxOk W fx) : fx.L ∈ fx.frs := by
 unfold Fx.frs
 rw [List.filterMap_cons, ok.frame]
 exact .head _
theorem Inv.hbsize (inv : Inv W fx β δ st h) {b : Addr} {x : Obj} (e : W.hb.get? b = some x) : h.get? b = some x := inv.stays b x e
theorem ff_keep (f : h.FunFrames {} (fx.env :: fx.outer)) (k : ∀ b ∈ fx.frs, ∀ x, h.get? b = some x → ∃ sl, h'.get? b = some { x with slots := sl }) : h'.FunFrames {} (fx.env :: fx.outer) := by
 unfold Fx.frs at k
 generalize fx.env :: fx.outer = l at f k
 induction l with
 | nil => trivial
 | cons env rest ih =>
  obtain ⟨hk, ⟨L, x, hf, hn, ho, hd⟩, hr⟩ := f
  obtain ⟨sl, e⟩ := k L (by rw [List.filterMap_cons, hf]; exact .head _) x ho
  exact ⟨hk, ⟨L, _, hf, hn, e, hd⟩, ih hr fun b hb => k b (by rw [List.filterMap_cons, hf]; exact .tail _ hb)⟩
theorem ns_slots {L : Addr} {m : Str → Option Value} (x : h.Ns L m) (k : ∀ y, h.get? L = some y → ∃ sl, h'.get? L = some { y with slots := sl }) : h'.Ns L m := by
 refine xo3_3 x fun y es ep a b c => ?_; clear x
 refine xo1_1 (k y a) fun sl e => ?_
 exact ⟨_, es, ep, e, b, c⟩
theorem ObjAt.move {n : Nat} (z : ObjAt W β δ n h l o) (kb : ∀ x, h.get? (β l) = some x → h'.get? (β l) = some x) (kd : ∀ x, h.get? (δ l) = some x → h'.get? (δ l) = some x) : ObjAt W β δ n h' l o := by
 cases o with
 | list xs => obtain ⟨Vs, ep, a, b, c⟩ := z; exact ⟨Vs, ep, kb _ a, b, c⟩
 | tup xs => obtain ⟨Vs, a, b, c⟩ := z; exact ⟨Vs, kb _ a, b, c⟩
 | dict es => obtain ⟨ds, ⟨o, es, ep, a, r⟩, b, c⟩ := z; exact ⟨ds, ⟨o, es, ep, kb _ a, r⟩, b, c⟩
 | inst c as => obtain ⟨a, ds, ep, b, d, e⟩ := z; exact ⟨kb _ a, ds, ep, kd _ b, d, e⟩
 | rng kk => obtain ⟨⟨t, u, v, a⟩, b⟩ := z; exact ⟨⟨t, u, v, kb _ a⟩, b⟩
 | ro xs => obtain ⟨Vs, ep, a, b, c⟩ := z; exact ⟨Vs, ep, ⟨a.1, kb _ a.2⟩, b, c⟩
theorem Inv.grow (inv : Inv W fx β δ st h) (k : ∀ b x, h.get? b = some x → h'.get? b = some x) : Inv W fx β δ st h' where
 ok := inv.ok
 rel := by
  obtain ⟨a1, a2, a3, a4, a5, a6, a7, a8⟩ := inv.rel
  refine ⟨a1, a2, fun l o e => ?_, a4, a5, a6, a7, fun l hl => let ⟨⟨x, e⟩, y, e'⟩ := a8 l hl; ⟨⟨x, k _ _ e⟩, y, k _ _ e'⟩⟩
  exact (a3 l o e).move (k _) (k _)
 loc := let ⟨m, a, b⟩ := inv.loc; ⟨m, a.keeps k, b⟩
 stays := fun b x e => k b x (inv.stays b x e)
 ff := ff_keep inv.ff fun b _ x e => ⟨x.slots, k b x e⟩
 apart := inv.apart
 basefr := inv.basefr
 hd := by
  have z := inv.hd
  revert z
  cases st.hd with
  | zero => exact id
  | succ k' => cases k' with
   | zero => rintro ⟨e, a, ⟨oe, vs, b, c⟩, d⟩; exact ⟨e, a, ⟨oe, vs, k _ _ b, c⟩, d⟩
   | succ k'' => exact id
theorem Go.grow (k : ∀ b x, h.get? b = some x → h'.get? b = some x) : Go fx β δ st h β δ st h' :=
 ⟨Nat.le_refl _, fun _ _ => ⟨rfl, rfl⟩, fun l a b => absurd b (Nat.not_lt.mpr a), fun b o e _ _ => k b o e, fun b _ _ o e => ⟨o.slots, k b o e⟩, rfl, fun b o e => ⟨o, k b o e⟩⟩
theorem push_keeps (o : Obj) : ∀ b x, h.get? b = some x → (h.push o).get? b = some x := fun b x e => Heap.get?_push_of_some _ e
theorem Inv.upd {a : Addr} (inv : Inv W fx β δ st h) (hl : st.heap l = some o) (hs : Heap.SameBut a h h') (ha : a = β l ∨ a = δ l) (hobj : ObjAt W β δ st.next h' l o') (hlive : ∃ y, h'.get? a = some y) :
  Inv W fx β δ (st.set l o') h' ∧ Go fx β δ st h β δ (st.set l o') h' := by
 have hlt := inv.rel.some_lt l o hl
 have hown : own β δ st.next a := ⟨l, hlt, ha⟩
 have nf : ∀ b ∈ fx.frs, b ≠ a := fun b hb e => inv.apart b hb (e ▸ hown)
 have same : ∀ b, b ≠ a → h'.get? b = h.get? b := hs.2
 have oth : ∀ l', l' < st.next → l' ≠ l → β l' ≠ a ∧ δ l' ≠ a := fun l' h1 h2 => by
  rcases ha with rfl | rfl
  ·exact ⟨fun e => h2 (inv.rel.bb _ _ h1 hlt e), fun e => h2 (inv.rel.bd _ _ hlt h1 e.symm).symm⟩
  ·exact ⟨fun e => h2 (inv.rel.bd _ _ h1 hlt e), fun e => h2 (inv.rel.dd _ _ h1 hlt e)⟩
 have live : ∀ b, (∃ x, h.get? b = some x) → ∃ x, h'.get? b = some x := fun b ⟨x, e⟩ => by
  by_cases q : b = a
  ·have z : ∃ y, h'.get? a = some y := hlive
   rw [q]; exact z
  ·exact ⟨x, (same b q).trans e⟩
 refine ⟨⟨inv.ok, ⟨fun l' x e => ?_, fun l' h1 => ?_, fun l' x e => ?_, inv.rel.bb, inv.rel.dd, inv.rel.bd, inv.rel.base, fun l' h1 => ⟨live _ (inv.rel.live l' h1).1, live _ (inv.rel.live l' h1).2⟩⟩, ?_, ?_, ?_, inv.apart, inv.basefr, ?_⟩, ?_⟩
 ·simp only [St.set] at e ⊢
  split at e
  ·rename_i q; rw [q]; exact hlt
  ·exact inv.rel.some_lt l' x e
 ·simp only [St.set]
  split
  ·exact ⟨_, rfl⟩
  ·exact inv.rel.lt_some l' h1
 ·simp only [St.set] at e ⊢
  split at e
  ·rename_i q; cases e; rw [q]; exact hobj
  ·rename_i q
   have h1 := inv.rel.some_lt l' x e
   have z := oth l' h1 q
   exact (inv.rel.obj l' x e).mono (Nat.le_refl _) h1 (fun _ _ => ⟨rfl, rfl⟩) (same _ z.1) (same _ z.2)
 ·refine xo1_2 inv.loc fun m a1 a2 => ?_
  exact ⟨m, a1.sameBut hs (nf _ (mem_frs inv.ok)), a2⟩
 ·exact fun b x e => (same b fun q => by
   have z := inv.rel.base l hlt
   rcases ha with rfl | rfl
   ·rw [q, z.1] at e; cases e
   ·rw [q, z.2] at e; cases e).trans (inv.stays b x e)
 ·exact ff_keep inv.ff fun b hb x e => ⟨x.slots, (same b (nf b hb)).trans e⟩
 ·have z := inv.hd
  show (match st.hd with | 0 => _ | 1 => _ | _ => _)
  revert z
  cases st.hd with
  | zero => exact id
  | succ k' => cases k' with
   | zero =>
    rintro ⟨e, a1, ⟨oe, vs, b, c⟩, d⟩
    exact ⟨e, a1, ⟨oe, vs, (same e fun q => d.1 (q ▸ hown)).trans b, c⟩, d⟩
   | succ k'' => exact id
 ·exact ⟨Nat.le_refl _, fun _ _ => ⟨rfl, rfl⟩, fun l a b => absurd b (Nat.not_lt.mpr a), fun b x e no _ => (same b fun q => no (q ▸ hown)).trans e,
   fun b hb _ x e => ⟨x.slots, (same b (nf b hb)).trans e⟩, rfl, fun b x e => live b ⟨x, e⟩⟩
end
end Mine
end
section
open PySem PySem.W PyProof.Rows PySem.Calls
namespace Mine
section
variable {W : Wd} {fx : Fx} {β δ β' δ' : Nat → Addr} {st : St} {h h' : Heap} {l : Nat} {o o' : AO}
theorem VRs.length {n : Nat} {vs : List AV} {Vs : List Value} (x : VRs W β n vs Vs) : vs.length = Vs.length := by
 induction x with
 | nil => rfl
 | cons _ _ ih => simp [ih]
theorem VRs.get {n : Nat} {vs : List AV} {Vs : List Value} (x : VRs W β n vs Vs) : ∀ {k : Nat} {v : AV}, vs[k]? = some v → ∃ V, Vs[k]? = some V ∧ VR W β n v V := by
 induction x with
 | nil => intro k v e; simp at e
 | cons a _ ih =>
  intro k v e
  cases k with
  | zero => simp at e; subst e; exact ⟨_, rfl, a⟩
  | succ k => simpa using ih (by simpa using e)
theorem VRs.none {n : Nat} {vs : List AV} {Vs : List Value} (x : VRs W β n vs Vs) {k : Nat} (e : vs[k]? = Option.none) : Vs[k]? = Option.none := by
 rw [List.getElem?_eq_none_iff] at e ⊢
 rw [← x.length]; exact e
theorem VRs.app {n : Nat} {vs ws : List AV} {Vs Ws : List Value} (x : VRs W β n vs Vs) (y : VRs W β n ws Ws) : VRs W β n (vs ++ ws) (Vs ++ Ws) := by
 induction x with
 | nil => exact y
 | cons a _ ih => exact .cons a ih
theorem VRs.set {n : Nat} {vs : List AV} {Vs : List Value} (x : VRs W β n vs Vs) {v : AV} {V : Value} (a : VR W β n v V) : ∀ k, VRs W β n (vs.set k v) (Vs.set k V) := by
 induction x with
 | nil => intro k; exact .nil
 | cons b c ih =>
  intro k
  cases k with
  | zero => exact .cons a c
  | succ k => exact .cons b (ih k)
theorem VRs.erase {n : Nat} {vs : List AV} {Vs : List Value} (x : VRs W β n vs Vs) : ∀ k, VRs W β n (vs.eraseIdx k) (Vs.eraseIdx k) := by
 induction x with
 | nil => intro k; exact .nil
 | cons b c ih =>
  intro k
  cases k with
  | zero => exact c
  | succ k => exact .cons b (ih k)
theorem VRs.take {n : Nat} {vs : List AV} {Vs : List Value} (x : VRs W β n vs Vs) : ∀ k, VRs W β n (vs.take k) (Vs.take k) := by
 induction x with
 | nil => intro k; rw [List.take_nil, List.take_nil]; exact .nil
 | cons b c ih =>
  intro k
  cases k with
  | zero => exact .nil
  | succ k => exact .cons b (ih k)
noncomputable def ext (β : Nat → Addr) (n : Nat) (a : Addr) : Nat → Addr := fun x => if x = n then a else β x
theorem ext_lt {n : Nat} {a : Addr} {l : Nat} (hl : l < n) : ext β n a l = β l := by unfold ext; rw [if_neg (Nat.ne_of_lt hl)]
theorem ext_eq {n : Nat} {a : Addr} : ext β n a n = a := by unfold ext; rw [if_pos rfl]
structure NewAt (W : Wd) (fx : Fx) (β δ : Nat → Addr) (st : St) (a : Addr) : Prop where
 own : ¬ own β δ st.next a
 frs : a ∉ fx.frs
 base : W.hb.get? a = none
 held : ∀ e, st.hd = 1 → fx.A.handled = some (.ref e) → e ≠ a
theorem Inv.newAt {a : Addr} (inv : Inv W fx β δ st h) (ha : h.get? a = Option.none) : NewAt W fx β δ st a where
 own := fun ⟨l, hl, e⟩ => by
  obtain ⟨⟨x, e1⟩, y, e2⟩ := inv.rel.live l hl
  rcases e with rfl | rfl
  ·rw [ha] at e1; exact nsE e1
  ·rw [ha] at e2; exact nsE e2
 frs := fun q => by
  refine xm_aeaa (inv.ff.mem q) fun _ x hx _ => ?_
  rw [ha] at hx; exact nsE hx
 base := by
  cases q : W.hb.get? a with
  | none => rfl
  | some x => exact absurd (ha.symm.trans (inv.stays a x q)) (by nofun)
 held := fun e q he w => by
  have z := inv.hd
  rw [q] at z
  obtain ⟨e', a1, ⟨oe, vs, b, _⟩, _⟩ := z
  rw [he] at a1; cases a1
  rw [w, ha] at b; cases b
theorem Inv.adopt {a d : Addr} (inv : Inv W fx β δ st h) (k : ∀ b x, h.get? b = some x → h'.get? b = some x)
  (ha : NewAt W fx β δ st a) (hd : NewAt W fx β δ st d) (ha' : ∃ o, h'.get? a = some o) (hd' : ∃ o, h'.get? d = some o)
  (hobj : ObjAt W (ext β st.next a) (ext δ st.next d) (st.next + 1) h' st.next o) :
  Inv W fx (ext β st.next a) (ext δ st.next d) (st.new o) h' := by
 have R := inv.rel
 have I' := inv.grow k
 have same : ∀ l, l < st.next → ext β st.next a l = β l ∧ ext δ st.next d l = δ l := fun l hl => ⟨ext_lt hl, ext_lt hl⟩
 have lt1 : ∀ l, l < st.next + 1 → l ≠ st.next → l < st.next := fun l h1 h2 => Nat.lt_of_le_of_ne (Nat.le_of_lt_succ h1) h2
 refine ⟨inv.ok, ⟨fun l x e => ?_, fun l hl => ?_, fun l x e => ?_, fun l l' h1 h2 e => ?_, fun l l' h1 h2 e => ?_, fun l l' h1 h2 e => ?_, fun l h1 => ?_, fun l h1 => ?_⟩, ?_, I'.stays, I'.ff, ?_, inv.basefr, ?_⟩
 ·simp only [St.new] at e ⊢
  split at e
  ·rename_i q; rw [q]; exact Nat.lt_succ_self _
  ·exact Nat.lt_succ_of_lt (R.some_lt l x e)
 ·simp only [St.new] at hl ⊢
  split
  ·exact ⟨_, rfl⟩
  ·rename_i q; exact R.lt_some l (lt1 l hl q)
 ·simp only [St.new] at e ⊢
  split at e
  ·rename_i q; cases e; rw [q]; exact hobj
  ·have h1 := R.some_lt l x e
   have z := I'.rel.obj l x e
   exact z.mono (Nat.le_succ _) h1 same rfl rfl
 ·simp only [St.new] at h1 h2
  by_cases q : l = st.next <;> by_cases q' : l' = st.next
  ·rw [q, q']
  ·rw [q, ext_eq, ext_lt (lt1 _ h2 q')] at e
   exact absurd ⟨l', lt1 _ h2 q', .inl e⟩ ha.own
  ·rw [q', ext_eq, ext_lt (lt1 _ h1 q)] at e
   exact absurd ⟨l, lt1 _ h1 q, .inl e.symm⟩ ha.own
  ·rw [ext_lt (lt1 _ h1 q), ext_lt (lt1 _ h2 q')] at e
   exact R.bb _ _ (lt1 _ h1 q) (lt1 _ h2 q') e
 ·simp only [St.new] at h1 h2
  by_cases q : l = st.next <;> by_cases q' : l' = st.next
  ·rw [q, q']
  ·rw [q, ext_eq, ext_lt (lt1 _ h2 q')] at e
   exact absurd ⟨l', lt1 _ h2 q', .inr e⟩ hd.own
  ·rw [q', ext_eq, ext_lt (lt1 _ h1 q)] at e
   exact absurd ⟨l, lt1 _ h1 q, .inr e.symm⟩ hd.own
  ·rw [ext_lt (lt1 _ h1 q), ext_lt (lt1 _ h2 q')] at e
   exact R.dd _ _ (lt1 _ h1 q) (lt1 _ h2 q') e
 ·simp only [St.new] at h1 h2
  by_cases q : l = st.next <;> by_cases q' : l' = st.next
  ·rw [q, q']
  ·rw [q, ext_eq, ext_lt (lt1 _ h2 q')] at e
   exact absurd ⟨l', lt1 _ h2 q', .inr e⟩ ha.own
  ·rw [q', ext_eq, ext_lt (lt1 _ h1 q)] at e
   exact absurd ⟨l, lt1 _ h1 q, .inl e.symm⟩ hd.own
  ·rw [ext_lt (lt1 _ h1 q), ext_lt (lt1 _ h2 q')] at e
   exact R.bd _ _ (lt1 _ h1 q) (lt1 _ h2 q') e
 ·simp only [St.new] at h1
  by_cases q : l = st.next
  ·rw [q, ext_eq, ext_eq]; exact ⟨ha.base, hd.base⟩
  ·rw [ext_lt (lt1 _ h1 q), ext_lt (lt1 _ h1 q)]; exact R.base l (lt1 _ h1 q)
 ·simp only [St.new] at h1
  by_cases q : l = st.next
  ·rw [q, ext_eq, ext_eq]; exact ⟨ha', hd'⟩
  ·rw [ext_lt (lt1 _ h1 q), ext_lt (lt1 _ h1 q)]
   exact I'.rel.live l (lt1 _ h1 q)
 ·refine xo1_2 I'.loc fun m a1 a2 => ?_
  exact ⟨m, a1, fun i v e => let ⟨V, b1, b2⟩ := a2 i v e; ⟨V, b1, b2.mono (Nat.le_succ _) fun l hl => ext_lt hl⟩⟩
 ·rintro b hb ⟨l, hl, e⟩
  simp only [St.new] at hl
  by_cases q : l = st.next
  ·rw [q, ext_eq, ext_eq] at e
   rcases e with rfl | rfl
   ·exact ha.frs hb
   ·exact hd.frs hb
  ·rw [ext_lt (lt1 _ hl q), ext_lt (lt1 _ hl q)] at e
   exact inv.apart b hb ⟨l, lt1 _ hl q, e⟩
 ·have z := I'.hd
  have zz := inv.hd
  have ah := ha.held
  have dh := hd.held
  show (match st.hd with | 0 => _ | 1 => _ | _ => _)
  revert z zz ah dh
  cases st.hd with
  | zero => exact fun z _ _ _ => z
  | succ k' => cases k' with
   | zero =>
    rintro ⟨e, a1, b1, d1⟩ ⟨e', a1', b1', d1'⟩ ah dh
    refine ⟨e', a1', ?_, ?_, d1'.2⟩
    ·rw [a1] at a1'; cases a1'; exact b1
    ·rintro ⟨l, hl, q⟩
     simp only [St.new] at hl
     by_cases w : l = st.next
     ·rw [w, ext_eq, ext_eq] at q
      rcases q with q | q
      ·exact ah e' rfl a1' q
      ·exact dh e' rfl a1' q
     ·rw [ext_lt (lt1 _ hl w), ext_lt (lt1 _ hl w)] at q
      exact d1'.1 ⟨l, lt1 _ hl w, q⟩
   | succ k'' => exact fun z _ _ _ => z
theorem Inv.alloc {a d : Addr} (inv : Inv W fx β δ st h) (k : ∀ b x, h.get? b = some x → h'.get? b = some x)
  (ha : h.get? a = Option.none) (hd : h.get? d = Option.none) (ha' : ∃ o, h'.get? a = some o) (hd' : ∃ o, h'.get? d = some o)
  (hobj : ObjAt W (ext β st.next a) (ext δ st.next d) (st.next + 1) h' st.next o) :
  Inv W fx (ext β st.next a) (ext δ st.next d) (st.new o) h' ∧ Go fx β δ st h (ext β st.next a) (ext δ st.next d) (st.new o) h' := by
 refine ⟨inv.adopt k (inv.newAt ha) (inv.newAt hd) ha' hd' hobj, Nat.le_succ _, fun l hl => ⟨ext_lt hl, ext_lt hl⟩, fun l h1 h2 => ?_, fun b o e _ _ => k b o e, fun b _ _ o e => ⟨o.slots, k b o e⟩, rfl, fun b o e => ⟨o, k b o e⟩⟩
 have : l = st.next := Nat.le_antisymm (Nat.le_of_lt_succ h2) h1
 rw [this, ext_eq, ext_eq]; exact ⟨ha, hd⟩
theorem Inv.put {i : Nat} {v : AV} {V : Value} {m : Str → Option Value} (inj : ∀ i j, W.nm i = W.nm j → i = j) (inv : Inv W fx β δ st h) (hm : ∀ j x, get? st.loc j = some x → ∃ X, m (W.nm j) = some X ∧ VR W β st.next x X)
  (hs : Heap.SameBut fx.L h h') (hn : h'.Ns fx.L (fun y => if y = W.nm i then some V else m y)) (hv : VR W β st.next v V) :
  Inv W fx β δ (st.put i v) h' ∧ Go fx β δ st h β δ (st.put i v) h' := by
 have hL := mem_frs inv.ok
 have no : ∀ l, l < st.next → β l ≠ fx.L ∧ δ l ≠ fx.L := fun l hl => ⟨fun e => inv.apart _ hL ⟨l, hl, .inl e.symm⟩, fun e => inv.apart _ hL ⟨l, hl, .inr e.symm⟩⟩
 refine ⟨⟨inv.ok, ⟨inv.rel.some_lt, inv.rel.lt_some, fun l x e => ?_, inv.rel.bb, inv.rel.dd, inv.rel.bd, inv.rel.base, fun l hl => let ⟨⟨x, e⟩, y, e'⟩ := inv.rel.live l hl; ⟨⟨x, (hs.2 _ (no l hl).1).trans e⟩, y, (hs.2 _ (no l hl).2).trans e'⟩⟩, ⟨_, hn, fun j x e => ?_⟩, ?_, ?_, inv.apart, inv.basefr, ?_⟩, ?_⟩
 ·have hl := inv.rel.some_lt l x e
  exact (inv.rel.obj l x e).mono (Nat.le_refl _) hl (fun _ _ => ⟨rfl, rfl⟩) (hs.2 _ (no l hl).1) (hs.2 _ (no l hl).2)
 ·by_cases q : j = i
  ·subst q
   have : x = v := by
    have : ∀ l : List (Nat × AV), get? (Mine.put l j v) j = some v := by
     intro l
     induction l with
     | nil => simp [Mine.put, get?]
     | cons p r ih => obtain ⟨a, b⟩ := p; unfold Mine.put; split <;> simp_all [get?]
    rw [show (st.put j v).loc = Mine.put st.loc j v from rfl, this] at e
    exact (Option.some.inj e).symm
   subst this
   exact ⟨V, by simp, hv⟩
  ·have : ∀ l : List (Nat × AV), get? (Mine.put l i v) j = get? l j := by
    intro l
    induction l with
    | nil => simp [Mine.put, get?, q]
    | cons p r ih =>
     obtain ⟨a, b⟩ := p; unfold Mine.put
     split
     ·rename_i qq; subst qq; simp [get?, q]
     ·by_cases w : j = a <;> simp [get?, w, ih]
   rw [show (st.put i v).loc = Mine.put st.loc i v from rfl, this] at e
   refine xo1_2 (hm j x e) fun X a1 a2 => ?_
   exact ⟨X, by show (if W.nm j = W.nm i then some V else m (W.nm j)) = some X; rw [if_neg fun w => q (inj _ _ w)]; exact a1, a2⟩
 ·exact fun b x e => (hs.2 b fun q => by
   have := inv.basefr _ hL; rw [← q, e] at this; cases this).trans (inv.stays b x e)
 ·have : ∀ b ∈ fx.frs, ∀ x, h.get? b = some x → ∃ x', h'.get? b = some x' ∧ ∀ vs, x.data ≠ .fields vs → x'.data ≠ .fields vs := fun b hb x e => by
   by_cases q : b = fx.L
   ·refine xo3_3 hn fun y es ep e1 e2 _ => ?_; clear hn
    exact ⟨y, q ▸ e1, fun vs _ w => by rw [e2] at w; cases w⟩
   ·exact ⟨x, (hs.2 b q).trans e, fun vs w => w⟩
  have f := inv.ff
  unfold Fx.frs at this
  generalize fx.env :: fx.outer = l at f this
  induction l with
  | nil => trivial
  | cons env rest ih =>
   obtain ⟨hk, ⟨L, x, hf, hn', ho, hd⟩, hr⟩ := f
   obtain ⟨x', e1, e2⟩ := this L (by rw [List.filterMap_cons, hf]; exact .head _) x ho
   exact ⟨hk, ⟨L, x', hf, hn', e1, fun vs => e2 vs (hd vs)⟩, ih hr fun b hb => this b (by rw [List.filterMap_cons, hf]; exact .tail _ hb)⟩
 ·have z := inv.hd
  show (match st.hd with | 0 => _ | 1 => _ | _ => _)
  revert z
  cases st.hd with
  | zero => exact id
  | succ k' => cases k' with
   | zero =>
    rintro ⟨e, a1, ⟨oe, vs, b, c⟩, d⟩
    exact ⟨e, a1, ⟨oe, vs, (hs.2 e fun q => d.2 (q ▸ hL)).trans b, c⟩, d⟩
   | succ k'' => exact id
 ·refine ⟨Nat.le_refl _, fun _ _ => ⟨rfl, rfl⟩, fun l a b => absurd b (Nat.not_lt.mpr a), fun b x e _ nf => (hs.2 b fun q => nf (q ▸ hL)).trans e, fun b _ hb x e => ⟨x.slots, (hs.2 b hb).trans e⟩, rfl, fun b x e => ?_⟩
  by_cases q : b = fx.L
  ·obtain ⟨y, _, _, e1, _⟩ := hn; exact ⟨y, q ▸ e1⟩
  ·exact ⟨x, (hs.2 b q).trans e⟩
end
end Mine
end
section
open PySem PySem.W PyProof.Rows PySem.Calls
namespace Mine
theorem mapFields_data {o : Obj} {vs : Array Value} (hd : o.data = .fields vs) (f) : (Obj.mapFields f o).data = .fields (f vs) := Obj.data_mapFields hd f
theorem mapFields_cls (o : Obj) (f) : (Obj.mapFields f o).cls = o.cls := Obj.cls_mapFields _ _
theorem notFreed_of_fields {o : Obj} {vs : Array Value} (hd : o.data = .fields vs) : o.isFreed = false := by
 obtain ⟨c, d, dt, sl⟩ := o; subst hd; rfl
structure Tch (fx : Fx) (fr : Addr → Prop) (h₀ : Heap) (h h' : Heap) : Prop where
 keep : ∀ b o, h.get? b = some o → b ∉ fx.frs → (h₀.get? b ≠ none ∨ ¬ fr b) → h'.get? b = some o
 live : ∀ b o, h.get? b = some o → ∃ o', h'.get? b = some o'
 frames : ∀ b ∈ fx.frs, ∀ o, h.get? b = some o → ∃ sl, h'.get? b = some { o with slots := sl }
theorem Tch.refl {fx : Fx} {fr : Addr → Prop} {h₀ : Heap} {h : Heap} : Tch fx fr h₀ h h := ⟨fun _ _ e _ _ => e, fun _ o e => ⟨o, e⟩, fun _ _ o e => ⟨o.slots, e⟩⟩
theorem Tch.trans {fx : Fx} {fr : Addr → Prop} {h₀ : Heap} {h h' h'' : Heap} (x : Tch fx fr h₀ h h') (y : Tch fx fr h₀ h' h'') : Tch fx fr h₀ h h'' :=
 ⟨fun b o e n k => y.keep b o (x.keep b o e n k) n k, fun b o e => let ⟨_, e1⟩ := x.live b o e; y.live b _ e1, fun b hb o e => let ⟨_, e1⟩ := x.frames b hb o e; let ⟨sl, e2⟩ := y.frames b hb _ e1; ⟨sl, e2⟩⟩
theorem Tch.upd {fx : Fx} {fr : Addr → Prop} {h₀ : Heap} {h : Heap} {a : Addr} {f : Obj → Obj} (h1 : h₀.get? a = none) (h2 : fr a) (h3 : a ∉ fx.frs) (h4 : ∃ o, (h.update a f).get? a = some o) : Tch fx fr h₀ h (h.update a f) :=
 ⟨fun b o e _ k => (Heap.get?_update_other _ _ fun q => by
  subst q
  rcases k with k | k
  ·exact k h1
  ·exact k h2).trans e, fun b o e => by
  by_cases q : b = a
  ·subst q; exact h4
  ·exact ⟨o, (Heap.get?_update_other _ _ fun w => q w.symm).trans e⟩, fun b hb o e => ⟨o.slots, (Heap.get?_update_other _ _ fun q => by subst q; exact h3 hb).trans e⟩⟩
section
variable {M : Model} {fx : Fx} {E : Value → Shared → Prop} {s : Shared} {fr : Addr → Prop} {e : Addr} {cls : Value} {cl : Bool} {h₀ : Heap} {Q : Unit → Shared → Prop}
theorem ExcSt.touched {h h' : Heap} (x : ExcSt fr h e cls cl h₀) (k : ∀ b o, h.get? b = some o → fr b → h'.get? b = some o) : ExcSt fr h' e cls cl h₀ := by
 refine xo2_6 x.obj fun oe vs a1 a2 a3 a4 a5 a6 => ?_
 refine ⟨x.new, x.free, oe, vs, k _ _ a1 x.free, a2, a3, a4, a5, a6.imp id ?_⟩
 rintro ⟨T, oT, ts, b1, b2, b3, b4, b5, b6⟩
 exact ⟨T, oT, ts, b1, b2, b3, b4, k _ _ b5 b3, b6⟩
theorem setFlight_any (x : ExcSt fr s.heap e cls cl h₀) (fl : Option Addr) (nf : ∀ b, fr b → b ∉ fx.frs)
  (h : ∀ h', Tch fx fr h₀ s.heap h' → ExcSt fr h' e cls cl h₀ → (Traced s.heap e → Traced h' e) → Q () { s with heap := h' }) : wpAny M fx.A (setFlight (.ref e) fl) Q E s := by
 refine xo2_6 x.obj fun oe vs a1 a2 a3 a4 a5 a6 => ?_
 have h1lt : 1 < vs.size := by omega
 unfold setFlight
 rcases a6 with a6 | ⟨T, oT, ts, b1, b2, b3, b4, b5, b6, b7⟩
 ·refine wpAny_bind (wpAny_field a1 a3 a6 ?_)
  rw [if_neg (by simp)]
  exact wpAny_pure (h _ .refl x id)
 ·refine wpAny_bind (wpAny_field a1 a3 b1 ?_)
  rw [if_pos (show (Value.ref T != Value.none) = true from by simp)]
  have oth : ∀ b, b ≠ T → (s.heap.update T (Obj.mapFields (·.setIfInBounds 3 (fl.elim Value.none fun f => rawInt f)))).get? b = s.heap.get? b := fun b hb => Heap.get?_update_other _ _ (Ne.symm hb)
  have hT := Heap.get?_update_self (Obj.mapFields (·.setIfInBounds 3 (fl.elim Value.none fun f => rawInt f))) b5 (notFreed_of_fields (mapFields_data b6 _))
  refine wpAny_setField b5 b6 b7 (h _ (.upd b2 b3 (nf T b3) ⟨_, hT⟩) ⟨x.new, x.free, oe, vs, (oth e (Ne.symm b4)).trans a1, a2, a3, a4, a5, .inr ⟨T, _, _, b1, b2, b3, b4, hT, mapFields_data b6 _, by simpa using b7⟩⟩ ?_)
  rintro ⟨oe', vs', T', c1, c2, c3⟩
  exact ⟨oe', vs', T', (oth e (Ne.symm b4)).trans c1, c2, c3⟩
theorem note_new (hfr : fx.A.frames = some (fx.env :: fx.outer)) (hf : fx.env.frame = some fx.L) (ff : s.heap.FunFrames {} (fx.env :: fx.outer)) (x : ExcSt fr s.heap e cls cl h₀) (nf : ∀ b, fr b → b ∉ fx.frs)
  (hnew : ∀ b, s.heap.get? b = none → fr b) (hz : ∀ b, s.heap.get? b = none → h₀.get? b = none) {head : Value} {hadNext : Bool}
  (h : ∀ h', Tch fx fr h₀ s.heap h' → ExcSt fr h' e cls cl h₀ → Traced h' e → Q () { s with heap := h' }) :
  wpAny M fx.A (do let a ← frameOf fx.env; let pl ← entryPlaceOf fx.L hadNext; let b ← EntryCells.newEntry head a .none (rawInt fx.L) .none pl; setField (.ref e) 1 b) Q E s := by
 refine xo2_6 x.obj fun oe vs a1 a2 a3 a4 a5 a6 => ?_
 refine wpAny_bind (wpAny_frameOf_fun hfr ff hf fun h₁ hs₁ => ?_)
 refine wpAny_bind (wpAny_entryPlaceOf fun pl hpl => ?_)
 unfold EntryCells.newEntry newFields
 refine wpAny_bind (wpAny_newObj_type ?_ (hpl.sizeOk5 _ _ _ _ _))
 have he₁ : h₁.get? e = some oe := (hs₁.2.1 e (nf e x.free)).trans a1
 have he₂ := Heap.get?_push_of_some (h := h₁) { cls := .type "traceback", dict := none, data := .fields ([head, .ref fx.L, .none, rawInt fx.L, .none] ++ (if pl.isEmpty then List.replicate 6 Value.none else pl)).toArray } he₁
 have h1lt : 1 < vs.size := by omega
 refine wpAny_setField he₂ a3 h1lt ?_
 have hTe : h₁.objs.size ≠ e := Nat.ne_of_gt (Heap.lt_size he₁)
 have hd₃ := Obj.data_mapFields a3 (·.setIfInBounds 1 (Value.ref h₁.objs.size))
 have he₃ := Heap.get?_update_self (Obj.mapFields (·.setIfInBounds 1 (Value.ref h₁.objs.size))) he₂ (Obj.isFreed_of_fields hd₃)
 have hT₃ := (Heap.get?_update_other (h₁.push { cls := .type "traceback", dict := none, data := .fields ([head, .ref fx.L, .none, rawInt fx.L, .none] ++ (if pl.isEmpty then List.replicate 6 Value.none else pl)).toArray })
  (Obj.mapFields (·.setIfInBounds 1 (Value.ref h₁.objs.size))) (Ne.symm hTe)).trans (Heap.get?_push_size h₁ rfl)
 have sz : s.heap.objs.size = h₁.objs.size := hs₁.1.symm
 have lohs : h₀.get? h₁.objs.size = none := hz _ (Heap.get?_none_of_le (Nat.le_of_eq sz))
 have t1 : Tch fx fr h₀ s.heap h₁ := ⟨fun b o q n _ => (hs₁.2.1 b n).trans q, fun b o q => by
  by_cases w : b ∈ fx.frs
  ·obtain ⟨sl, e1⟩ := hs₁.2.2 b o q; exact ⟨_, e1⟩
  ·exact ⟨o, (hs₁.2.1 b w).trans q⟩, fun b _ o q => hs₁.2.2 b o q⟩
 have t2 : Tch fx fr h₀ h₁ (h₁.push { cls := .type "traceback", dict := none, data := .fields ([head, .ref fx.L, .none, rawInt fx.L, .none] ++ (if pl.isEmpty then List.replicate 6 Value.none else pl)).toArray }) :=
  ⟨fun b o q _ _ => Heap.get?_push_of_some _ q, fun b o q => ⟨o, Heap.get?_push_of_some _ q⟩, fun b _ o q => ⟨o.slots, Heap.get?_push_of_some _ q⟩⟩
 refine h _ ((t1.trans t2).trans (.upd x.new x.free (nf e x.free) ⟨_, he₃⟩)) ⟨x.new, x.free, _, _, he₃, (mapFields_cls _ _).trans a2, hd₃, by simpa using a4, fun c => ?_, .inr ⟨h₁.objs.size, _, _, ?_, lohs, hnew _ (Heap.get?_none_of_le (Nat.le_of_eq sz)), hTe, hT₃, rfl, ?_⟩⟩ ⟨_, _, h₁.objs.size, he₃, hd₃, ?_⟩
 ·rw [Array.getElem?_setIfInBounds_ne (by decide)]; exact a5 c
 ·simp [h1lt]
 ·simp only [List.size_toArray, List.length_append, List.length_cons, List.length_nil]; omega
 ·simp [h1lt]
theorem note_any (hfr : fx.A.frames = some (fx.env :: fx.outer)) (hf : fx.env.frame = some fx.L) (ff : s.heap.FunFrames {} (fx.env :: fx.outer)) (x : ExcSt fr s.heap e cls cl h₀) (nf : ∀ b, fr b → b ∉ fx.frs)
  (hnew : ∀ b, s.heap.get? b = none → fr b) (hz : ∀ b, s.heap.get? b = none → h₀.get? b = none) (h : ∀ h', Tch fx fr h₀ s.heap h' → ExcSt fr h' e cls cl h₀ → Traced h' e → Q () { s with heap := h' }) : wpAny M fx.A (noteFrame (.ref e) fx.env) Q E s := by
 refine xo2_6 x.obj fun oe vs a1 a2 a3 a4 a5 a6 => ?_
 unfold noteFrame
 simp only [hf]
 rcases a6 with a6 | ⟨T, oT, ts, b1, b2, b3, b4, b5, b6, b7⟩
 ·refine wpAny_bind (wpAny_field a1 a3 a6 ?_)
  rw [if_neg (by simp)]
  exact note_new hfr hf ff x nf hnew hz h
 ·refine wpAny_bind (wpAny_field a1 a3 b1 ?_)
  rw [if_pos (show (Value.ref T != Value.none) = true from by simp)]
  obtain ⟨y, hy⟩ : ∃ y, ts[3]? = some y := ⟨_, Array.getElem?_eq_getElem b7⟩
  refine wpAny_bind (wpAny_field b5 b6 hy ?_)
  by_cases q : (y == rawInt fx.L) = true
  ·rw [if_pos q]
   exact wpAny_pure (h _ .refl x ⟨oe, vs, T, a1, a3, b1⟩)
  ·rw [if_neg q]
   have oth : ∀ b, b ≠ T → (s.heap.update T (Obj.mapFields (·.setIfInBounds 3 Value.none))).get? b = s.heap.get? b := fun b hb => Heap.get?_update_other _ _ (Ne.symm hb)
   have hT := Heap.get?_update_self (Obj.mapFields (·.setIfInBounds 3 Value.none)) b5 (notFreed_of_fields (mapFields_data b6 _))
   have t1 : Tch fx fr h₀ s.heap (s.heap.update T (Obj.mapFields (·.setIfInBounds 3 Value.none))) := .upd b2 b3 (nf T b3) ⟨_, hT⟩
   refine wpAny_bind (wpAny_setField b5 b6 b7 (note_new (s := { s with heap := _ }) hfr hf (ff_keep ff t1.frames)
    ⟨x.new, x.free, oe, vs, (oth e (Ne.symm b4)).trans a1, a2, a3, a4, a5, .inr ⟨T, _, _, b1, b2, b3, b4, hT, mapFields_data b6 _, by simpa using b7⟩⟩ nf
    (fun b hb => hnew b (by
     cases q : s.heap.get? b with
     | none => rfl
     | some o => obtain ⟨o', e'⟩ := t1.live b o q; exact absurd ((show (s.heap.update T _).get? b = none from hb).symm.trans e') (by nofun))) (fun b hb => hz b (by
     cases q : s.heap.get? b with
     | none => rfl
     | some o => obtain ⟨o', e'⟩ := t1.live b o q; exact absurd ((show (s.heap.update T _).get? b = none from hb).symm.trans e') (by nofun)))
    fun h' y1 y2 y3 => h h' (t1.trans y1) y2 y3))
end
section
variable {W : Wd} {fx : Fx} {β δ β' δ' : Nat → Addr} {st st' : St} {h h' h₀ : Heap}
theorem Inv.hlow (inv : Inv W fx β δ st h) (q : st.hd = 1) : ∀ e, fx.A.handled = some (.ref e) → h.get? e ≠ none := fun e he => by
 have z := inv.hd
 rw [q] at z
 obtain ⟨e', a, ⟨oe, vs, b, _⟩, _⟩ := z
 rw [he] at a; cases a
 rw [b]; nofun
theorem Inv.touch (inv : Inv W fx β δ st h) (t : Tch fx (Free fx β δ st.next) h₀ h h') (hst : W.hb.StaysIn h₀) (hh : st.hd = 1 → ∀ e, fx.A.handled = some (.ref e) → h₀.get? e ≠ none) : Inv W fx β δ st h' := by
 have ownk : ∀ b x, own β δ st.next b → h.get? b = some x → h'.get? b = some x := fun b x hb e => t.keep b x e (fun q => inv.apart b q hb) (.inr fun q => q.1 hb)
 have bl : ∀ l, l < st.next → own β δ st.next (β l) ∧ own β δ st.next (δ l) := fun l hl => ⟨⟨l, hl, .inl rfl⟩, ⟨l, hl, .inr rfl⟩⟩
 refine ⟨inv.ok, ⟨inv.rel.some_lt, inv.rel.lt_some, fun l o e => ?_, inv.rel.bb, inv.rel.dd, inv.rel.bd, inv.rel.base, fun l hl => let ⟨⟨x, e⟩, y, e'⟩ := inv.rel.live l hl; ⟨⟨x, ownk _ _ (bl l hl).1 e⟩, y, ownk _ _ (bl l hl).2 e'⟩⟩, ?_, ?_, ff_keep inv.ff t.frames, inv.apart, inv.basefr, ?_⟩
 ·have hl := inv.rel.some_lt l o e
  exact (inv.rel.obj l o e).move (fun x => ownk _ x (bl l hl).1) (fun x => ownk _ x (bl l hl).2)
 ·refine xo1_2 inv.loc fun m a1 a2 => ?_
  exact ⟨m, ns_slots a1 fun y e => t.frames _ (mem_frs inv.ok) y e, a2⟩
 ·exact fun b x e => t.keep b x (inv.stays b x e) (fun q => by rw [inv.basefr b q] at e; cases e) (.inl (by rw [hst b x e]; nofun))
 ·have z := inv.hd
  revert z hh
  cases st.hd with
  | zero => exact fun _ z => z
  | succ k' => cases k' with
   | zero =>
    rintro hh ⟨e, a1, ⟨oe, vs, b, c⟩, d⟩
    exact ⟨e, a1, ⟨oe, vs, t.keep e oe b d.2 (.inl (hh rfl e a1)), c⟩, d⟩
   | succ k'' => exact fun _ z => z
theorem Go.touch (g : Go fx β δ st h₀ β' δ' st' h) (t : Tch fx (Free fx β' δ' st'.next) h₀ h h') (_inv : Inv W fx β' δ' st' h) : Go fx β δ st h₀ β' δ' st' h' where
 next := g.next
 same := g.same
 new := g.new
 keep b o e no nf := t.keep b o (g.keep b o e no nf) nf (.inl (by rw [e]; nofun))
 frames b hb hL o e := by
  refine xo1_1 (g.frames b hb hL o e) fun s1 e1 => ?_
  refine xo1_1 (t.frames b hb _ e1) fun s2 e2 => ?_
  exact ⟨s2, e2⟩
 hd := g.hd
 live b o e := let ⟨_, e1⟩ := g.live b o e; t.live b _ e1
theorem Inv.own_live (inv : Inv W fx β δ st h) {b : Addr} (hb : own β δ st.next b) : ∃ o, h.get? b = some o := by
 refine xo1_2 hb fun l hl e => ?_; clear hb
 rcases e with rfl | rfl
 ·exact (inv.rel.live l hl).1
 ·exact (inv.rel.live l hl).2
theorem Inv.free_new (inv : Inv W fx β δ st h) : ∀ b, h.get? b = none → Free fx β δ st.next b := fun b hb => by
 refine ⟨fun q => ?_, fun q => ?_⟩
 ·obtain ⟨o, e⟩ := inv.own_live q; rw [hb] at e; exact nsE e
 ·refine xm_aeaa (inv.ff.mem q) fun _ x hx _ => ?_
  rw [hb] at hx; exact nsE hx
variable {α : Type} {r : R α} {s s' : Shared} {x : Value} {E : Value → Shared → Prop} {M : Model}
noncomputable def RaisedT (W : Wd) (fx : Fx) (β δ : Nat → Addr) (st : St) (s : Shared) (r : R α) (x : Value) (s' : Shared) : Prop := Raised W fx β δ st s r x s' ∧ ∀ e, x = .ref e → Traced s'.heap e
theorem Raised.note {Q : Unit → Shared → Prop} (inv : Inv W fx β δ st s.heap) (p : Raised W fx β δ st s r x s') (q : ∀ s'', RaisedT W fx β δ st s r x s'' → Q () s'') : wpAny M fx.A (noteFrame x fx.env) Q E s' := by
 obtain ⟨c, cl, st₁, β₁, δ₁, e, e1, rfl, e3, e4, e5, e6⟩ := p
 refine note_any inv.ok.frames inv.ok.frame e4.ff e3 (fun b z => z.2) e4.free_new e5.none fun h' t x' tr => q _ ⟨⟨c, cl, st₁, β₁, δ₁, e, e1, rfl, x', e4.touch t inv.stays fun q1 => ?_, e5.touch t e4, by rw [e6]⟩, fun e' he => by cases he; exact tr⟩
 exact inv.hlow (e5.hd.symm.trans q1)
theorem RaisedT.flight {Q : Unit → Shared → Prop} (inv : Inv W fx β δ st s.heap) (p : RaisedT W fx β δ st s r x s') (fl : Option Addr) (q : ∀ s'', RaisedT W fx β δ st s r x s'' → Q () s'') : wpAny M fx.A (setFlight x fl) Q E s' := by
 obtain ⟨⟨c, cl, st₁, β₁, δ₁, e, e1, rfl, e3, e4, e5, e6⟩, tr⟩ := p
 refine setFlight_any e3 fl (fun b z => z.2) fun h' t x' tr' => q _ ⟨⟨c, cl, st₁, β₁, δ₁, e, e1, rfl, x', e4.touch t inv.stays fun q1 => ?_, e5.touch t e4, by rw [e6]⟩, fun e' he => by cases he; exact tr' (tr e rfl)⟩
 exact inv.hlow (e5.hd.symm.trans q1)
end
end Mine
end
section
open PySem PySem.W PyProof.Rows PySem.Calls
namespace Mine
structure Base (W : Wd) : Prop where
 inK : W.K.In W.hb
 lim : W.hb.NoLimit
 inj : ∀ i j, W.nm i = W.nm j → i = j
 dbg : ∀ i, (W.nm i == ("__debug__" : Str)) = false
 sup : ∀ i, (W.nm i != ("super" : Str)) = true
 ns : ∃ mg mb, W.hb.Ns mainGlobals mg ∧ W.hb.Ns builtinsNs mb ∧ ∀ i, W.gl i = true → mg (W.nm i) = some (W.gv i) ∨ (mg (W.nm i) = none ∧ mb (W.nm i) = some (W.gv i))
noncomputable def notAttr : E → Bool
 | .gv .. => true
 | .lv .. => true
 | _ => false
section
variable (gl : Nat → Bool) (kd : List (Nat × NameKind))
noncomputable def Es.len : Es → Nat
 | .nil => 0
 | .cons _ r => r.len + 1
noncomputable def Ks.len : Ks → Nat
 | .nil => 0
 | .cons _ _ _ r => r.len + 1
mutual
noncomputable def E.wf : E → Bool
 | .lv i _ => kd.lookup i == some .local
 | .gv i _ => kd.lookup i == some .globalImplicit && gl i
 | .cst .. => true
 | .attr e _ _ => e.wf
 | .sub e i _ => e.wf && i.wf
 | .upto e n _ _ => e.wf && n.wf
 | .bin _ l r _ => l.wf && r.wf
 | .neg e _ => e.wf
 | .not e _ => e.wf
 | .band es _ => es.wf
 | .bor es _ => es.wf
 | .cmp l _ r _ => l.wf && r.wf
 | .cmp2 l _ m _ r _ => l.wf && m.wf && r.wf
 | .ife t a b _ => t.wf && a.wf && b.wf
 | .call f as ks _ => notAttr f && f.wf && as.wf && ks.wf && decide (as.len + 2 * ks.len < 25)
 | .mcall o _ q as ks p => o.wf && as.wf && ks.wf && decide (as.len + 2 * ks.len < 25) && decide (q.endLine = p.line)
 | .lst es _ => es.wf
 | .tup es _ _ => es.wf
 | .dct0 _ => true
 | .dct1 k v _ => k.wf && v.wf
 | .comp .. => false
noncomputable def Es.wf : Es → Bool
 | .nil => true
 | .cons e r => e.wf && r.wf
noncomputable def Ks.wf : Ks → Bool
 | .nil => true
 | .cons _ e _ r => e.wf && r.wf
end
end
abbrev gV (W : Wd) : Good AV Value := fun β _ st v V => VR W β st.next v V
abbrev gVs (W : Wd) : Good (List AV) (List Value) := fun β _ st v V => VRs W β st.next v V
abbrev gB : Good Bool Bool := fun _ _ _ a b => a = b
abbrev gU : Good Unit Unit := fun _ _ _ _ _ => True
noncomputable def FlR (W : Wd) (β : Nat → Addr) (n : Nat) : Fl → Flow → Prop
 | .next, .next => True
 | .brk, .brk => True
 | .cont, .cont => True
 | .ret v, .ret V => VR W β n v V
 | _, _ => False
abbrev gF (W : Wd) : Good Fl Flow := fun β _ st v V => FlR W β st.next v V
section
variable {W : Wd} {fx : Fx} {β δ β' δ' : Nat → Addr} {st st' : St} {s : Shared} {h' : Heap} {α τ υ ρ : Type} {good : Good α τ} {v : α} {x : τ}
theorem kindOf_nm (B : Base W) (ok : FxOk W fx) (i : Nat) : fx.env.kindOf (W.nm i) = fx.kd.lookup i := by
 unfold Env.kindOf
 rw [ok.names]
 generalize fx.kd = l
 induction l with
 | nil => rfl
 | cons p r ih =>
  obtain ⟨j, k⟩ := p
  rw [List.map_cons, List.lookup_cons, List.lookup_cons]
  by_cases q : i = j
  ·subst q; simp
  ·rw [beq_eq_false_iff_ne.mpr fun w => q (B.inj _ _ w), beq_eq_false_iff_ne.mpr q]; exact ih
theorem After.tok {k : Nat} (inv : Inv W fx β δ st s.heap) (g : good β δ st v x) : After W fx β δ st s (.ok v st) good x { s with toks := k } :=
 ⟨v, st, β, δ, rfl, g, inv, .refl rfl rfl, rfl⟩
theorem After.now (inv : Inv W fx β δ st s.heap) (g : good β δ st v x) : After W fx β δ st s (.ok v st) good x s :=
 ⟨v, st, β, δ, rfl, g, inv, .refl rfl rfl, rfl⟩
theorem After.mk {k : Nat} (i : Inv W fx β' δ' st' h' ∧ Go fx β δ st s.heap β' δ' st' h') (g : good β' δ' st' v x) : After W fx β δ st s (.ok v st') good x { s with heap := h', toks := k } :=
 ⟨v, st', β', δ', rfl, g, i.1, i.2, rfl⟩
theorem Ok.bad {t : Sem τ} : Ok W fx t β δ st (R.bad : R α) good := fun nb => (nb rfl).elim
noncomputable def OkA {α τ : Type} (W : Wd) (fx : Fx) (A : Around) (t : Sem τ) (β δ : Nat → Addr) (st : St) (r : R α) (good : Good α τ) : Prop :=
 r ≠ .bad → ∀ s : Shared, Inv W fx β δ st s.heap → wpAny (model W.prog W.w) A t (After W fx β δ st s r good) (Raised W fx β δ st s r) s
section
variable {A : Around} {V : Value} {v : AV} {n : Nat} {T : Value → Sem τ}
theorem OkA.bad {t : Sem τ} : OkA W fx A t β δ st (R.bad : R α) good := fun nb => (nb rfl).elim
theorem OkA.asInt {f : Int → R α} (hv : VR W β n v V) (h : ∀ x t, OkA W fx A (T (.int x t)) β δ st (f x) good) : OkA W fx A (T V) β δ st (asInt v f) good := by
 cases v <;> first | exact .bad | (obtain ⟨t, rfl⟩ := hv; exact h _ _)
theorem OkA.asLoc {f : Nat → R α} (hv : VR W β n v V) (h : ∀ l, l < n → OkA W fx A (T (.ref (β l))) β δ st (f l) good) : OkA W fx A (T V) β δ st (asLoc v f) good := by
 cases v <;> first | exact .bad | (obtain ⟨t, rfl⟩ := hv; exact h _ t)
theorem OkA.asGl {f : Nat → R α} (hv : VR W β n v V) (h : ∀ k, OkA W fx A (T (W.gv k)) β δ st (f k) good) : OkA W fx A (T V) β δ st (asGl v f) good := by
 cases v <;> first | exact .bad | (cases hv; exact h _)
theorem OkA.atObj {t : Sem τ} {l : Nat} {f : AO → R α} (h : ∀ o, st.heap l = some o → OkA W fx A t β δ st (f o) good) : OkA W fx A t β δ st (atObj st l f) good := by
 unfold Mine.atObj
 cases q : st.heap l with
 | none => exact .bad
 | some o => exact h o q
theorem OkA.onList {t : Sem τ} {o : AO} {f : List AV → R α} (h : ∀ xs, o = .list xs → OkA W fx A t β δ st (f xs) good) : OkA W fx A t β δ st (onList o f) good := by
 cases o <;> first | exact .bad | exact h _ rfl
theorem OkA.onDict {t : Sem τ} {o : AO} {f : List (AV × AV) → R α} (h : ∀ xs, o = .dict xs → OkA W fx A t β δ st (f xs) good) : OkA W fx A t β δ st (onDict o f) good := by
 cases o <;> first | exact .bad | exact h _ rfl
theorem OkA.onInst {t : Sem τ} {o : AO} {f : Nat → List (Nat × AV) → R α} (h : ∀ c as, o = .inst c as → OkA W fx A t β δ st (f c as) good) : OkA W fx A t β δ st (onInst o f) good := by
 cases o <;> first | exact .bad | exact h _ _ rfl
theorem OkA.ifp {t : Sem τ} {p : Prop} [Decidable p] {r : R α} (h : p → OkA W fx A t β δ st r good) : OkA W fx A t β δ st (if p then r else .bad) good := by
 by_cases q : p
 ·rw [if_pos q]; exact h q
 ·rw [if_neg q]; exact .bad
theorem OkA.arg1 {T : List Value → Sem τ} {xs : List AV} {Xs : List Value} {f : AV → R α} (hx : VRs W β n xs Xs) (h : ∀ v V, VR W β n v V → OkA W fx A (T [V]) β δ st (f v) good) : OkA W fx A (T Xs) β δ st (arg1 xs f) good := by
 cases hx with
 | nil => exact .bad
 | cons a b => cases b with
  | nil => exact h _ _ a
  | cons _ _ => exact .bad
theorem OkA.arg2 {T : List Value → Sem τ} {xs : List AV} {Xs : List Value} {f : AV → AV → R α} (hx : VRs W β n xs Xs) (h : ∀ v V u U, VR W β n v V → VR W β n u U → OkA W fx A (T [V, U]) β δ st (f v u) good) : OkA W fx A (T Xs) β δ st (arg2 xs f) good := by
 cases hx with
 | nil => exact .bad
 | cons a b => exact OkA.arg1 (T := fun X => T (_ :: X)) b fun _ _ c => h _ _ _ _ a c
end
theorem Ok.toA {t : Sem τ} {r : R α} (h : OkA W fx fx.A t β δ st r good) : Ok W fx t β δ st r good := h
theorem Ok.pure (g : good β δ st v x) : Ok W fx (Pure.pure x) β δ st (.ok v st) good := fun _ _ inv => wpAny_pure (.now inv g)
theorem Ok.hold {t : Sem τ} {r : R α} {vs : List Value} (a : Ok W fx t β δ st r good) : Ok W fx (holding vs t) β δ st r good := fun nb s inv => wpAny_holding (a nb s inv)
theorem Ok.stand {t : Sem τ} {r : R α} {p : Pos} (a : Ok W fx t β δ st r good) : Ok W fx (standAt p >>= fun _ => t) β δ st r good := fun nb s inv => wpAny_bind (wpAny_standAt (a nb s inv))
theorem Ok.rule {t : Sem τ} {r : R α} {p : String} (a : Ok W fx t β δ st r good) : Ok W fx (PySem.rule p >>= fun _ => t) β δ st r good := fun nb s inv => wpAny_bind (wpAny_rule (a nb s inv))
theorem Ok.operate {t : Sem Value} {r : R α} {good : Good α Value} {vs : List Value} (a : Ok W fx t β δ st r good) : Ok W fx (operate vs t) β δ st r good := fun nb s inv => wpAny_operate' (a nb s inv)
theorem Ok.release {t : Sem τ} {r : R α} {vs ks : List Value} (a : Ok W fx t β δ st r good) : Ok W fx (PySem.release vs ks >>= fun _ => t) β δ st r good := fun nb s inv => wpAny_bind (wpAny_release' (a nb s inv))
theorem Ok.letGo {t : Sem τ} {r : R α} {e : Expr} {o q : Value} (a : Ok W fx t β δ st r good) : Ok W fx (letTemporaryGo e o q >>= fun _ => t) β δ st r good := fun nb s inv => wpAny_bind (wpAny_letTemporaryGo (a nb s inv))
theorem Ok.mono {t : Sem τ} {r : R α} {good' : Good α τ} (a : Ok W fx t β δ st r good) (m : ∀ β δ st v x, good β δ st v x → good' β δ st v x) : Ok W fx t β δ st r good' := fun nb s inv =>
 wpAny_mono (a nb s inv) (fun _ _ ⟨v, st', β', δ', e1, e2, e3⟩ => ⟨v, st', β', δ', e1, m _ _ _ _ _ e2, e3⟩) fun _ _ x => x
theorem Ok.step {t : Sem τ} {k : τ → Sem ρ} {r : R υ} {good : Good υ ρ} (x : τ) (a : ∀ (s : Shared) (E : Value → Shared → Prop) (Q : τ → Shared → Prop), Inv W fx β δ st s.heap → Q x s → wpAny (model W.prog W.w) fx.A t Q E s) (b : Ok W fx (k x) β δ st r good) : Ok W fx (t >>= k) β δ st r good :=
 fun nb s inv => wpAny_bind (a s _ _ inv (b nb s inv))
theorem Ok.bnd1 {t : Sem τ} {r : R α} {k : α → St → R υ} {k' : τ → ρ} {good' : Good υ ρ} (a : Ok W fx t β δ st r good)
  (b : ∀ v st' β' δ' x, r = .ok v st' → good β' δ' st' v x → ∃ u, k v st' = .ok u st' ∧ good' β' δ' st' u (k' x)) : Ok W fx (t >>= fun x => Pure.pure (k' x)) β δ st (r.bnd k) good' :=
 Ok.bind a fun v st' β' δ' x e g _ _ => by
  refine xo1_2 (b v st' β' δ' x e g) fun u e1 e2 => ?_
  rw [e1]; exact .pure e2
theorem lv_ok (B : Base W) {i : Nat} {p : Pos} (hw : (E.lv i p).wf W.gl fx.kd = true) (C) : Ok W fx (eval ((E.lv i p).dec W.nm W.sc) fx.env) β δ st (evalE W.g C (.lv i p) st) (gV W) := fun nb s inv => by
 have hw : (fx.kd.lookup i == some .local) = true := hw
 have hk : fx.env.kindOf (W.nm i) = some .local := (kindOf_nm B inv.ok i).trans (eq_of_beq hw)
 have ev : evalE W.g C (.lv i p) st = match get? st.loc i with | some v => .ok v st | none => .bad := rfl
 rw [ev] at nb ⊢
 show wpAny _ _ (eval (.Name (W.nm i) p) fx.env) _ _ s
 cases q : get? st.loc i with
 | none => rw [q] at nb; exact (nb rfl).elim
 | some v =>
  refine xo1_2 inv.loc fun m a1 a2 => ?_
  refine xo1_2 (a2 i v q) fun V b1 b2 => ?_
  refine wpAny_Name (wpAny_loadName_local inv.ok.kind hk (inv.ok.locals ▸ a1) b1 (.now inv b2)) (B.dbg i)
theorem gv_at (B : Base W) {i : Nat} {p : Pos} {Er : Value → Shared → Prop} {Q : Value → Shared → Prop} (hw : (E.gv i p).wf W.gl fx.kd = true) (inv : Inv W fx β δ st s.heap) (hQ : Q (W.gv i) s) : wpAny (model W.prog W.w) fx.A (eval (.Name (W.nm i) p) fx.env) Q Er s := by
 have hw : (fx.kd.lookup i == some .globalImplicit && W.gl i) = true := hw
 refine xo0_2 (Bool.and_eq_true_iff.mp hw) fun h1 h2 => ?_
 have hk : fx.env.kindOf (W.nm i) = some .globalImplicit := (kindOf_nm B inv.ok i).trans (eq_of_beq h1)
 refine xo2_3 B.ns fun mg mb n1 n2 n3 => ?_
 have g1 := inv.ok.globals ▸ n1.keeps inv.stays
 have g2 := inv.ok.builtins ▸ n2.keeps inv.stays
 rcases n3 i h2 with q | ⟨q, q'⟩
 ·exact Name_function_global inv.ok.kind hk (loadGlobal_global g1 q hQ) (B.dbg i)
 ·exact Name_function_global inv.ok.kind hk (loadGlobal_builtin g1 q g2 q' hQ) (B.dbg i)
theorem gv_ok (B : Base W) {i : Nat} {p : Pos} (hw : (E.gv i p).wf W.gl fx.kd = true) (C) : Ok W fx (eval ((E.gv i p).dec W.nm W.sc) fx.env) β δ st (evalE W.g C (.gv i p) st) (gV W) := fun nb s inv => by
 exact gv_at B hw inv (.now inv (α := AV) (v := .gl i) rfl)
theorem cst_ok {c : KC} {k : Nat} {p : Pos} (C) : Ok W fx (eval ((E.cst c k p).dec W.nm W.sc) fx.env) β δ st (evalE W.g C (.cst c k p) st) (gV W) := fun nb s inv => by
 show wpAny _ _ (eval (.Constant (c.dec W.nm) k p) fx.env) (After W fx β δ st s (.ok c.av st) (gV W)) _ s
 cases c with
 | none => exact wpAny_Constant_none (.now inv rfl)
 | bool b => exact wpAny_Constant_bool (.now inv rfl)
 | int i => exact wpAny_Constant_int (.tok inv ⟨_, rfl⟩)
 | str i => exact wpAny_Constant_str (.tok inv ⟨_, rfl⟩)
theorem natAbs_bits {x : Int} (h : x.natAbs < 2 ^ 60) : Builtin.Int.intBits x ≤ 64 := intBits_le_64 (by omega) (by omega)
theorem binoI_ok {o : Op} {a b : Int} {t u : Tok} : Ok W fx (binaryOp o.dec (.int a t) (.int b u)) β δ st (binoI o a b st) (gV W) := by
 cases o with
 | add => exact fun _ s inv => P.add_int (.tok inv ⟨_, rfl⟩)
 | sub => exact fun _ s inv => P.sub_int (.tok inv ⟨_, rfl⟩)
 | mul => exact .toA (.ifp fun q _ s inv => P.mul_int (.tok inv ⟨_, rfl⟩) (.of_left (natAbs_bits q)))
 | fdiv => exact .toA (.ifp fun q _ s inv => floordiv_int q.1 (.tok inv ⟨_, rfl⟩) (.inl (PyProof.noPylong_small q.2)))
 | mod => exact .toA (.ifp fun q _ s inv => mod_int' q (.tok inv ⟨_, rfl⟩))
end
end Mine
end
section
open PySem PySem.W PyProof.Rows PySem.Calls
namespace Mine
noncomputable def biV : BI → Value
 | .abs => .builtin "abs"
 | .len => .builtin "len"
 | .isinstance => .builtin "isinstance"
 | .range => .type "range"
 | .sorted => .builtin "sorted"
structure Words (W : Wd) : Prop where
 ke : W.gv W.g.keyError = .type "KeyError"
 ie : W.gv W.g.indexError = .type "IndexError"
 sm : W.hb.get? sysModules ≠ none
 eqN : W.nm W.g.eqN = ("__eq__" : Str)
 ltN : W.nm W.g.ltN = ("__lt__" : Str)
 bi : ∀ k b, W.g.gk k = .bi b → W.gv k = biV b
 intN : W.gv W.g.intN = .type "int"
 append : W.nm W.g.append = ("append" : Str)
 pop : W.nm W.g.pop = ("pop" : Str)
 remove : W.nm W.g.remove = ("remove" : Str)
 pct : ∀ k, k ∈ W.g.pct → ∀ (prog : Program) (w : World) (A : Around) (E : Value → Shared → Prop) (s : Shared) (t u : Tok) (n : Int) (Q : Value → Shared → Prop), 0 ≤ n → n < 1000000000 →
  (∀ y t' k, Q (.str y t') { s with toks := k }) → wpAny (model prog w) A (binaryOp .Mod (.str (W.nm k) t) (.int n u)) Q E s
 cpsInj : ∀ i j, (W.nm i).cps.toList = (W.nm j).cps.toList → i = j
section
variable {W : Wd} {fx : Fx} {β δ β' δ' : Nat → Addr} {st st' : St} {s : Shared} {h' : Heap} {n : Nat}
theorem dict_nodup {h : Heap} {a : Addr} {ds : List (Int × Value)} (x : h.DictOf (intKind W.prog W.w) a ds) : (ds.map (·.1)).Nodup := by
 obtain ⟨_, _, _, _, _, _, _, _, r⟩ := x; exact r
theorem VR.locEq {l : Nat} {V : Value} (x : VR W β n (.loc l) V) : l < n ∧ V = .ref (β l) := x
theorem VR.intEq {i : Int} {V : Value} (x : VR W β n (.int i) V) : ∃ t, V = .int i t := x
theorem not_sm (B : Words W) (inv : Inv W fx β δ st s.heap) {l : Nat} (hl : l < st.next) : (β l == sysModules) = false :=
 beq_eq_false_iff_ne.mpr fun e => B.sm (e ▸ (inv.rel.base l hl).1)
theorem DRs.val {es : List (AV × AV)} {ds : List (Int × Value)} (x : DRs W β n es ds) {k : Int} : ∀ {v : AV}, dget? es (.int k) = some v → ∃ V, valueAt ds k = some V ∧ VR W β n v V := by
 induction x with
 | nil => intro v e; exact nsE e
 | @cons i v0 V0 es ds a _ ih =>
  intro v e
  unfold dget? at e
  unfold valueAt at ih ⊢
  rw [List.find?_cons]
  by_cases q : k = i
  ·subst q
   rw [if_pos rfl] at e; obtain rfl := Option.some.inj e
   exact ⟨_, by simp, a⟩
  ·rw [if_neg (by simpa using q)] at e
   have : decide ((i, V0).1 = k) = false := decide_eq_false fun w => q w.symm
   rw [this]
   exact ih e
theorem DRs.miss {es : List (AV × AV)} {ds : List (Int × Value)} (x : DRs W β n es ds) {k : Int} (e : dget? es (.int k) = none) : valueAt ds k = none := by
 induction x with
 | nil => rfl
 | @cons i v0 V0 es ds a _ ih =>
  unfold dget? at e
  unfold valueAt at ih ⊢
  rw [List.find?_cons]
  by_cases q : k = i
  ·subst q; rw [if_pos rfl] at e; exact snE e
  ·rw [if_neg (by simpa using q)] at e
   have : decide ((i, V0).1 = k) = false := decide_eq_false fun w => q w.symm
   rw [this]
   exact ih e
theorem DRs.length {es : List (AV × AV)} {ds : List (Int × Value)} (x : DRs W β n es ds) : es.length = ds.length := by
 induction x with
 | nil => rfl
 | cons _ _ ih => simp [ih]
theorem dput_len (es : List (AV × AV)) (k v : AV) : (dput es k v).length ≤ es.length + 1 := by
 induction es with
 | nil => simp [dput]
 | cons p r ih => obtain ⟨a, b⟩ := p; unfold dput; split <;> simp; omega
theorem ddel_len (es : List (AV × AV)) (k : AV) : (ddel es k).length ≤ es.length := by
 induction es with
 | nil => simp [ddel]
 | cons p r ih => obtain ⟨a, b⟩ := p; unfold ddel; split <;> simp; omega
theorem DRs.keys {es : List (AV × AV)} {ds : List (Int × Value)} (x : DRs W β n es ds) : es.map (·.1) = ds.map fun p => .int p.1 := by
 induction x with
 | nil => rfl
 | cons _ _ ih => simp [ih]
theorem DRs.put {es : List (AV × AV)} {ds : List (Int × Value)} (x : DRs W β n es ds) (nd : (ds.map (·.1)).Nodup) {k : Int} {v : AV} {V : Value} (hv : VR W β n v V) : DRs W β n (dput es (.int k) v) (stored ds k V) := by
 induction x with
 | nil => exact .cons hv .nil
 | @cons i v0 V0 es ds a b ih =>
  rw [List.map_cons, List.nodup_cons] at nd
  unfold dput
  by_cases q : k = i
  ·subst q
   rw [if_pos rfl]
   unfold stored
   rw [if_pos (by simp)]
   rw [List.map_cons, map_store_of_not_mem _ _ _ nd.1]
   simpa using .cons hv b
  ·rw [if_neg (by simpa using q)]
   have z := ih nd.2
   unfold stored at z ⊢
   have q' : ¬ i = k := fun w => q w.symm
   by_cases w : (ds.any fun kv => decide (kv.1 = k)) = true
   ·rw [if_pos w] at z
    rw [if_pos (by simp [w])]
    simp only [List.map_cons, q', if_false]
    exact .cons a z
   ·rw [if_neg w] at z
    rw [if_neg (by simp [q']; simpa using w)]
    exact .cons a z
theorem DRs.del {es : List (AV × AV)} {ds : List (Int × Value)} (x : DRs W β n es ds) (nd : (ds.map (·.1)).Nodup) {k : Int} : DRs W β n (ddel es (.int k)) (without ds k) := by
 induction x with
 | nil => exact .nil
 | @cons i v0 V0 es ds a b ih =>
  rw [List.map_cons, List.nodup_cons] at nd
  unfold ddel without
  by_cases q : k = i
  ·subst q
   rw [if_pos rfl]
   have z := without_of_not_mem _ _ nd.1
   unfold without at z
   rw [List.filter_cons, if_neg (by simp), z]
   exact b
  ·rw [if_neg (by simpa using q)]
   have q' : i ≠ k := fun w => q w.symm
   have z := ih nd.2
   unfold without at z
   simp only [List.filter_cons, q', ne_eq, not_false_eq_true, decide_true, if_true]
   exact .cons a z
theorem Raised.newExc {α : Type} {c : Nat} {e : Addr} {T : String} {k : Nat} (inv : Inv W fx β δ st s.heap) (n : Heap.NewExc s.heap h' e T) (hc : W.gv c = .type T) : Raised (α := α) W fx β δ st s (.ex c true st) (.ref e) { s with heap := h', toks := k } := by
 refine xo2_3 n.there fun ob t a b d => ?_
 refine ⟨c, true, st, β, δ, e, rfl, rfl, ⟨n.new, inv.free_new e n.new, ob, _, a, b.trans hc.symm, d, by simp, fun _ => rfl, .inl rfl⟩, inv.grow n.keeps, .grow n.keeps, rfl⟩
theorem hd0 (inv : Inv W fx β δ st s.heap) (e : st.hd = 0) : fx.A.handled = none := by
 have z := inv.hd
 rw [e] at z; exact z
theorem raise0_of {α : Type} {c : Nat} (nb : (raise0 c st : R α) ≠ .bad) : st.hd = 0 ∧ (raise0 c st : R α) = .ex c true st := by
 unfold raise0 at nb ⊢
 cases q : st.hd with
 | zero => exact ⟨rfl, rfl⟩
 | succ k => rw [q] at nb; exact (nb rfl).elim
theorem isEmpty_VRs {xs : List AV} {Vs : List Value} (b : VRs W β n xs Vs) : (!xs.isEmpty) = !Vs.toArray.isEmpty := by cases b <;> rfl
theorem truth_ok (B : Words W) {v : AV} {V : Value} (hv : VR W β st.next v V) : Ok W fx (truthy V) β δ st (truth v st) gB := by
 cases v with
 | none => cases hv; exact fun _ s inv => wpAny_pure (.now inv rfl)
 | bool b => cases hv; exact fun _ s inv => wpAny_truthy_bool (.now inv rfl)
 | int i => obtain ⟨t, rfl⟩ := hv; exact fun _ s inv => P.truthy_int (.now inv (by by_cases q : i = 0 <;> simp [q]))
 | loc l =>
  refine xo0_2 hv fun hl e1_ => ?_; clear hv; obtain rfl := e1_
  refine .toA (.atObj fun o q => ?_)
  cases o with
  | list xs =>
   intro _ s inv
   obtain ⟨Vs, ep, a, b, d⟩ := inv.rel.obj l _ q
   exact wpAny_truthy_list (items := Vs.toArray) (IsL.isList a) (by have := b.length; simp; omega) (.tok inv ((isEmpty_VRs b)))
  | dict es =>
   intro _ s inv
   obtain ⟨ds, a, b, d⟩ := inv.rel.obj l _ q
   exact wpAny_truthy_dict (not_sm B inv hl) a (by have := b.length; omega) (.tok inv (by cases b <;> rfl))
  | ro xs =>
   intro _ s inv
   obtain ⟨Vs, ep, ⟨a0, a⟩, b, d⟩ := inv.rel.obj l _ q
   exact wpAny_truthy_list (items := Vs.toArray) ⟨_, a, a0.1, _, a0.2⟩ (by have := b.length; simp; omega) (.tok inv ((isEmpty_VRs b)))
  | _ => exact .bad
 | _ => exact .bad
theorem itemR_ok {xs : List AV} {k : Int} {T : Sem Value} (h : ∀ x, 0 ≤ k → k.toNat < xs.length → xs[k.toNat]? = some x → Ok W fx T β δ st (.ok x st) (gV W)) : Ok W fx T β δ st (itemR xs k st) (gV W) := .toA (.ifp fun h0 => by
 cases q : xs[k.toNat]? with
 | none => exact .bad
 | some x => exact h x h0 (List.getElem?_eq_some_iff.mp q).1 q)
theorem getI_ok (B : Words W) {v i : AV} {V I : Value} {base slice : Expr} (hv : VR W β st.next v V) (hi : VR W β st.next i I) (hs : ∀ b, subscripted slice b V I = subscripted (.Constant .none 0 ⟨0, 0, 0, 0⟩) b V I) : Ok W fx (subscriptTail base slice V I) β δ st (getI W.g v i st) (gV W) := by
 cases v with
 | loc l =>
  cases i with
  | int k =>
   refine xo0_2 hv fun hl e1_ => ?_; clear hv; obtain rfl := e1_
   refine xo1_1 hi fun t e1_ => ?_; clear hi; obtain rfl := e1_
   have hs' : subscripted slice false (.ref (β l)) (.int k t) = operate [.ref (β l), .int k t] (getItem (.ref (β l)) (.int k t)) := hs false
   refine .toA (.atObj fun o q => ?_)
   cases o with
   | list xs =>
    refine itemR_ok fun x h0 hlt qx _ s inv => ?_
    obtain ⟨Vs, ep, a, b, d⟩ := inv.rel.obj l _ q
    refine xo1_2 (b.get qx) fun X e1 e2 => ?_
    exact tail_any (IsL.isList a).typeIs slot_list_getitem.lookup (wpAny_getItem_list (IsL.isList a) h0 (by omega) (by simpa using e1) (.now inv e2)) hs'
   | ro xs =>
    refine itemR_ok fun x h0 hlt qx _ s inv => ?_
    obtain ⟨Vs, ep, ⟨a0, a⟩, b, d⟩ := inv.rel.obj l _ q
    refine xo1_2 (b.get qx) fun X e1 e2 => ?_
    have hL : s.heap.IsList (β l) Vs.toArray := ⟨_, a, a0.1, _, a0.2⟩
    exact tail_any hL.typeIs slot_list_getitem.lookup (wpAny_getItem_list hL h0 (by omega) (by simpa using e1) (.now inv e2)) hs'
   | tup xs =>
    refine itemR_ok fun x h0 hlt qx _ s inv => ?_
    obtain ⟨Vs, a, b, d⟩ := inv.rel.obj l _ q
    refine xo1_2 (b.get qx) fun X e1 e2 => ?_
    have hb := b.length
    exact tail_any (T := "tuple") ⟨_, a, rfl⟩ F.slot_tuple_getitem.lookup (P.getItem_tuple (k := k.toNat) a (by omega) (by omega) (by unfold seqIndex?; simp; omega) (by simpa using e1) (.now inv e2)) hs'
   | dict es =>
    intro nb s inv
    obtain ⟨ds, a, b, d⟩ := inv.rel.obj l _ q
    have hk : (intKind W.prog W.w).is k (.int k t) = true := by simp [intKind, Value.isInt]
    refine tail_any a.typeIs slot_dict_getitem.lookup ?_ hs'
    revert nb
    show (match dget? es (.int k) with | some x => R.ok x st | none => raise0 W.g.keyError st) ≠ .bad → wpAny _ _ _ (After W fx β δ st s (match dget? es (.int k) with | some x => R.ok x st | none => raise0 W.g.keyError st) (gV W)) (Raised W fx β δ st s (match dget? es (.int k) with | some x => R.ok x st | none => raise0 W.g.keyError st)) s
    cases qx : dget? es (.int k) with
    | none =>
     intro nb
     refine xo0_2 (raise0_of nb) fun h0 e0 => ?_
     dsimp only
     rw [e0]
     exact wpAny_getItem_missing_of hk (not_sm B inv hl) (hd0 inv h0) a.mapOf (b.miss qx) fun h' e n => .newExc inv n B.ke
    | some x =>
     intro nb
     refine xo1_2 (b.val qx) fun X e1 e2 => ?_
     exact wpAny_getItem_of hk a.mapOf e1 (.tok inv e2)
   | _ => exact .bad
  | _ => exact .bad
 | _ => exact .bad
end
end Mine
end
section
open PySem PySem.W PyProof.Rows PySem.Calls
namespace Mine
section
variable {W : Wd} {fx : Fx} {β δ β' δ' : Nat → Addr} {st st' : St} {s : Shared} {h' : Heap} {n : Nat}
theorem push_get {h : Heap} (o : Obj) (hf : o.isFreed = false) : (h.push o).get? h.objs.size = some o := Heap.get?_push_size h hf
theorem size_free {h : Heap} : h.get? h.objs.size = none := Heap.get?_none_of_le (Nat.le_refl _)
theorem Inv.pushed {o : AO} {ob : Obj} (inv : Inv W fx β δ st s.heap) (hf : ob.isFreed = false)
  (hobj : ObjAt W (ext β st.next s.heap.objs.size) (ext δ st.next s.heap.objs.size) (st.next + 1) (s.heap.push ob) st.next o) {k : Nat} :
  After W fx β δ st s (Mine.alloc o st) (gV W) (.ref s.heap.objs.size) { s with heap := s.heap.push ob, toks := k } :=
 .mk (inv.alloc (a := s.heap.objs.size) (d := s.heap.objs.size) (push_keeps ob) size_free size_free ⟨_, push_get ob hf⟩ ⟨_, push_get ob hf⟩ hobj) ⟨Nat.lt_succ_self _, by rw [ext_eq]⟩
theorem VRs.up {vs : List AV} {Vs : List Value} {a : Addr} (x : VRs W β n vs Vs) : VRs W (ext β n a) (n + 1) vs Vs := x.mono (Nat.le_succ _) fun _ h => ext_lt h
theorem VR.up {v : AV} {V : Value} {a : Addr} (x : VR W β n v V) : VR W (ext β n a) (n + 1) v V := x.mono (Nat.le_succ _) fun _ h => ext_lt h
theorem Inv.newList {xs : List AV} {Vs : List Value} (inv : Inv W fx β δ st s.heap) (x : VRs W β st.next xs Vs) (hz : xs.length ≤ 100000) {k : Nat} :
  After W fx β δ st s (Mine.alloc (.list xs) st) (gV W) (.ref s.heap.objs.size) { s with heap := s.heap.push (listOf Vs.toArray 0), toks := k } :=
 inv.pushed (o := .list xs) (ob := listOf Vs.toArray 0) rfl ⟨Vs, 0, by rw [ext_eq]; exact push_get _ rfl, x.up, hz⟩
theorem Inv.newTup {xs : List AV} {Vs : List Value} (inv : Inv W fx β δ st s.heap) (x : VRs W β st.next xs Vs) (hz : xs.length ≤ 100000) {k : Nat} :
  After W fx β δ st s (Mine.alloc (.tup xs) st) (gV W) (.ref s.heap.objs.size) { s with heap := s.heap.push (tupOf Vs), toks := k } :=
 inv.pushed (o := .tup xs) (ob := tupOf Vs) rfl ⟨Vs, by rw [ext_eq]; exact push_get _ rfl, x.up, hz⟩
theorem newList_ok {xs : List AV} {Vs : List Value} (x : VRs W β st.next xs Vs) (hz : xs.length ≤ 1000) : Ok W fx (newList Vs) β δ st (alloc (.list xs) st) (gV W) := fun nb s inv => by
 unfold newList
 exact wpAny_newObj_type (inv.newList x (by omega)) (by show Vs.toArray.size ≤ sizeLine; have := x.length; rw [sizeLine_eq]; simp; omega)
theorem newTup_ok {xs : List AV} {Vs : List Value} (x : VRs W β st.next xs Vs) (hz : xs.length ≤ 1000) : Ok W fx (newTuple Vs) β δ st (alloc (.tup xs) st) (gV W) := fun nb s inv => by
 unfold newTuple
 exact wpAny_newObj_type (inv.newTup x (by omega)) (by show Vs.toArray.size ≤ sizeLine; have := x.length; rw [sizeLine_eq]; simp; omega)
theorem setItem_list {M : Program} {w : World} {A : Around} {E : Value → Shared → Prop} {l : Addr} {items : Array Value} {n : Nat} {k : Int} {t : Tok} {v : Value} {Q : Unit → Shared → Prop}
  (hl : IsL s.heap l items n) (h0 : 0 ≤ k) (hfit : k < 2 ^ 63) (hn : k < items.size) (hQ : Q () { s with heap := s.heap.update l (Obj.mapSeq (·.setIfInBounds k.toNat v)) }) : wpAny (model M w) A (setItem (.ref l) (.int k t) v) Q E s := by
 have hT : s.TypeIs (.ref l) "list" := ⟨_, hl, rfl⟩
 unfold setItem
 refine wpAny_holding (wpAny_bind (wpAny_sequenceKey hT (by decide) ?_))
 refine wpAny_bind (wpAny_callSpecial?_slot (name := Str.ofString "__setitem__") hT slot_list_setitem (wpAny_call_entry slot_list_setitem hT entry_list_setitem ?_ (args_list_setitem _ _ _)))
 show wpAny _ _ (Builtin.List.listSubscript? (.int k t) >>= _) _ _ s
 refine wpAny_bind (wpAny_listSubscript_int (fitsIndex_of h0 hfit) ?_)
 clear hfit
 refine xo1_1 (Int.eq_ofNat_of_zero_le h0) fun j e1_ => ?_; obtain rfl := e1_
 have hx : items[j]? = some (items[j]'(by omega)) := Array.getElem?_eq_getElem (by omega)
 show wpAny _ _ ((seqItemAt l j >>= fun r => pure (r.map (j, ·))) >>= _) _ _ s
 refine wpAny_bind (wpAny_bind (wpAny_seqItemAt hl rfl (wpAny_pure ?_)))
 rw [hx]
 show wpAny _ _ (setSeqItemAt l j v >>= _) _ _ s
 refine wpAny_bind (wpAny_setSeqItemAt hl rfl ?_)
 first
  | exact wpAny_bind (wpAny_pure (wpAny_pure ⟨.none, rfl, wpAny_pure hQ⟩))
  | exact wpAny_pure ⟨.none, rfl, wpAny_pure hQ⟩
theorem get_update {h : Heap} {a : Addr} {o : Obj} (f : Obj → Obj) (ho : h.get? a = some o) (hf : (f o).isFreed = false) : (h.update a f).get? a = some (f o) := Heap.get?_update_self f ho hf
theorem Inv.listed {l : Nat} {xs ys : List AV} {Vs Ws : List Value} {ep : Nat} {f : Array Value → Array Value} (inv : Inv W fx β δ st s.heap) (hl : st.heap l = some (.list xs)) (ho : IsL s.heap (β l) Vs.toArray ep)
  (hf : f Vs.toArray = Ws.toArray) (hv : VRs W β st.next ys Ws) (hz : ys.length ≤ 100000) :
  Inv W fx β δ (st.set l (.list ys)) (s.heap.update (β l) (Obj.mapSeq f)) ∧ Go fx β δ st s.heap β δ (st.set l (.list ys)) (s.heap.update (β l) (Obj.mapSeq f)) := by
 have e := IsL.update ho f
 rw [hf] at e
 refine inv.upd hl (Heap.SameBut.update ..) (.inl rfl) ⟨Ws, _, e, hv, hz⟩ ⟨_, e⟩
theorem Inv.dicted {l : Nat} {es es' : List (AV × AV)} {ds : List (Int × Value)} (inv : Inv W fx β δ st s.heap) (hl : st.heap l = some (.dict es)) (hs : Heap.SameBut (β l) s.heap h') (ho : h'.DictOf (intKind W.prog W.w) (β l) ds)
  (hv : DRs W β st.next es' ds) (hz : es'.length ≤ 100000) : Inv W fx β δ (st.set l (.dict es')) h' ∧ Go fx β δ st s.heap β δ (st.set l (.dict es')) h' :=
 inv.upd hl hs (.inl rfl) ⟨ds, ho, hv, hz⟩ (let ⟨o, _, _, e, _⟩ := ho; ⟨o, e⟩)
theorem setI_ok {v i x : AV} {V I X : Value} (hv : VR W β st.next v V) (hi : VR W β st.next i I) (hx : VR W β st.next x X) : Ok W fx (setItem V I X) β δ st (setI v i x st) gU := by
 refine .toA (.asLoc (T := fun V => setItem V I X) hv fun l hl => .asInt (T := fun I => setItem _ I X) hi fun k t => .atObj fun o q => ?_)
 cases o with
 | list xs =>
  refine .ifp fun h0 _ s inv => ?_
  obtain ⟨Vs, ep, a, b, d⟩ := inv.rel.obj l _ q
  have hb := b.length
  exact setItem_list a h0.1 (by omega) (by simp; omega) (.mk (inv.listed q a (Ws := Vs.set k.toNat X) (by simp) (b.set hx _) (by simpa using d)) trivial)
 | dict es =>
  refine .ifp fun h0 _ s inv => ?_
  obtain ⟨ds, a, b, d⟩ := inv.rel.obj l _ q
  have hb := b.length
  exact wpAny_setItem_pairs (knd := intKind W.prog W.w) (k := k) (by simp [intKind, Value.isInt]) a (fun h' e1 e2 => .mk (inv.dicted q e2 e1 (b.put (dict_nodup a) hx) (Nat.le_trans (dput_len ..) (by omega))) trivial) (by rw [sizeLine_eq]; omega)
 | _ => exact .bad
theorem foldl_app (Vs : List Value) : ∀ (k : Nat) (acc : List Value), List.foldl (fun x1 x2 => x1 ++ x2) acc.toArray (List.replicate k Vs.toArray) = (acc ++ (List.replicate k Vs).flatten).toArray
 | 0, acc => by simp
 | k + 1, acc => by
  rw [List.replicate_succ, List.foldl_cons, List.replicate_succ, List.flatten_cons, ← List.append_assoc, ← foldl_app Vs k]
  simp
theorem VRs.rep {xs : List AV} {Vs : List Value} (x : VRs W β n xs Vs) : ∀ k : Nat, VRs W β n (List.replicate k xs).flatten (List.replicate k Vs).flatten
 | 0 => .nil
 | k + 1 => by
  rw [List.replicate_succ, List.replicate_succ, List.flatten_cons, List.flatten_cons]
  exact x.app (VRs.rep x k)
theorem mul_list {M : Program} {w : World} {A : Around} {E : Value → Shared → Prop} {l : Addr} {Vs : List Value} {k : Nat} {x : Int} {u : Tok} {Q : Value → Shared → Prop} (hl : IsL s.heap l Vs.toArray k) (hne : Vs ≠ [])
  (h0 : 0 ≤ x) (hx : x < 1000) (hz : Vs.length ≤ 1000) (h : Q (.ref s.heap.objs.size) { s with heap := s.heap.push (listOf (List.replicate x.toNat Vs).flatten.toArray 0) }) : wpAny (model M w) A (binaryOp .Mult (.ref l) (.int x u)) Q E s := by
 have hs1 : Vs.toArray.size = Vs.length := by simp
 have hsz : Vs.length * x.toNat ≤ 2 ^ 24 := by
  have : Vs.length * x.toNat ≤ 1000 * 1000 := Nat.mul_le_mul hz (by omega)
  omega
 have e : List.foldl (fun x1 x2 => x1 ++ x2) #[] (List.replicate (if Vs.toArray.isEmpty = true then 0 else x.toNat) Vs.toArray) = (List.replicate x.toNat Vs).flatten.toArray := by
  rw [if_neg (by simpa using hne)]
  exact foldl_app Vs x.toNat []
 refine wpAny_binaryOp_repeat_ref (T := "list") (U := "int") (by decide) ⟨_, hl, rfl⟩ (fun s' => typeIs_int s' x u) noFill_list_mul F.fills_int_mul F.slot_int_rmul repeat_list F.slot_int_index.lookup
  (call_meets F.slot_int_rmul (typeIs_int s x u) F.entry_int_rmul (F.args_int_rmul_2 _ _) (int___rmul___int_list x u l Vs.toArray k)
   ⟨hl, rfl, ⟨_, hl, rfl⟩, call_meets F.slot_list_mul ⟨_, hl, rfl⟩ F.entry_list_mul (F.args_list_mul_2 _ _)
    (AutoListH.list___mul___list_int_3 l Vs.toArray k x u (by simp [Builtin.List.listFitsIndex]; omega) (by rw [hs1]; omega) (by simp [Builtin.List.listTooLong, sizeLine]; omega)) ⟨hl, ?_⟩⟩)
 rw [e]; exact h
theorem add_ok {l k : Nat} {xs ys : List AV} (q : st.heap l = some (.list xs)) (q' : st.heap k = some (.list ys)) (h0 : xs.length + ys.length ≤ 1000) : Ok W fx (binaryOp .Add (.ref (β l)) (.ref (β k))) β δ st (alloc (.list (xs ++ ys)) st) (gV W) := fun _ s inv => by
 obtain ⟨Vs, ep, a, b, d⟩ := inv.rel.obj l _ q
 obtain ⟨Us, ep', a', b', d'⟩ := inv.rel.obj k _ q'
 have hb := b.length
 have hb' := b'.length
 refine P.add_list a a' ?_ (by rw [sizeLine_eq]; simp; omega)
 simpa using inv.newList (b.app b') (by simp; omega) (k := s.toks)
theorem rep_ok {l : Nat} {xs : List AV} {n : Int} {u : Tok} (q : st.heap l = some (.list xs)) (h0 : xs.length = 1 ∧ 0 ≤ n ∧ n ≤ 100) : Ok W fx (binaryOp .Mult (.ref (β l)) (.int n u)) β δ st (alloc (.list ((List.replicate n.toNat xs).flatten)) st) (gV W) := fun _ s inv => by
 obtain ⟨Vs, ep, a, b, d⟩ := inv.rel.obj l _ q
 have hb := b.length
 refine mul_list a (fun e => by rw [e, h0.1] at hb; simp at hb) h0.2.1 (by omega) (by omega) (inv.newList (b.rep _) ?_ (k := s.toks))
 have : ((List.replicate n.toNat xs).flatten).length = n.toNat * xs.length := by simp
 rw [this, h0.1]; omega
theorem bino_ok (B : Words W) {o : Op} {a b : AV} {V U : Value} (ha : VR W β st.next a V) (hb : VR W β st.next b U) : Ok W fx (binaryOp o.dec V U) β δ st (bino W.g o a b st) (gV W) := by
 cases a with
 | int x => obtain ⟨t, rfl⟩ := ha; exact .toA (.asInt (T := fun U => binaryOp o.dec _ U) hb fun y u => binoI_ok)
 | str k =>
  refine xo1_1 ha fun t e1_ => ?_; clear ha; obtain rfl := e1_
  refine .toA (.asInt (T := fun U => binaryOp o.dec _ U) hb fun y u => ?_)
  cases o with
  | mod => exact .ifp fun h0 _ s inv => B.pct k h0.1 _ _ _ _ _ _ _ _ _ h0.2.1 h0.2.2 fun y t' k => .tok inv ⟨_, _, rfl⟩
  | _ => exact .bad
 | loc l =>
  refine xo0_2 ha fun h1 e1_ => ?_; clear ha; obtain rfl := e1_
  refine .toA (.atObj fun x q => .onList fun xs e => ?_)
  subst e
  cases o with
  | add => exact .asLoc (T := fun U => binaryOp _ _ U) hb fun k hk => .atObj fun y q' => .onList fun ys e => .ifp fun h0 => by subst e; exact add_ok q q' h0
  | mul => exact .asInt (T := fun U => binaryOp _ _ U) hb fun n u => .ifp fun h0 => rep_ok q h0
  | _ => exact .bad
 | _ => exact .bad
end
end Mine
end
section
open PySem PySem.W PyProof.Rows PySem.Calls
namespace Mine
structure ClsOk (W : Wd) (c : Nat) : Prop where
 gv : W.gv c = .ref (W.ca c)
 get : ∀ a, plainGet W.K (W.ca c) (W.nm a) = true
 hasDict : hasDictIn W.K (W.ca c) = true
 over : plainOver W.K (W.ca c) = true
 setattr : findIn W.K (.ref (W.ca c)) "__setattr__" = some (some (.builtin "object.__setattr__"))
 data : ∀ a, W.g.me c a = .data → findIn W.K (.ref (W.ca c)) (W.nm a) = some none
 meth : ∀ a f, W.g.me c a = .fn f → findIn W.K (.ref (W.ca c)) (W.nm a) = some (some (.ref (W.fa f))) ∧ isFn W.K (.ref (W.fa f)) = true
 prop : ∀ a f g, W.g.me c a = .prop f g → ∃ p rest, findIn W.K (.ref (W.ca c)) (W.nm a) = some (some (.ref p)) ∧ specialIn W.K (.ref p) "__get__" = some (some (.builtin "property.__get__")) ∧
  takesIn W.K (.ref p) = some true ∧ recIn W.K p "property" = some (.ref (W.fa f) :: .ref (W.fa g) :: rest) ∧ typeIn W.K (.ref p) = some (.type "property")
 makes : makesIn W.K (W.ca c) = true
noncomputable def Clss (W : Wd) : Prop := ∀ c, ((∃ a, W.g.me c a ≠ .none) ∨ W.g.gk c = .cls) → ClsOk W c
noncomputable def KRs (W : Wd) (β : Nat → Addr) (n : Nat) (ks : List (Nat × AV)) (Ks : List (Str × Value)) : Prop := ∃ Vs, VRs W β n (ks.map (·.2)) Vs ∧ Ks = (ks.map (W.nm ·.1)).zip Vs
noncomputable def Ends (W : Wd) (fx : Fx) (β δ : Nat → Addr) (st : St) (s : Shared) (r : R AV) : Result → Shared → Prop := wants (After W fx β δ st s r (gV W)) (Raised W fx β δ st s r)
noncomputable def CallsOk (W : Wd) (fx : Fx) (C : Nat → List AV → St → R AV) : Prop :=
 ∀ (A : Around), A.handled = fx.A.handled → A.frames = fx.A.frames → A.depth ≤ fx.A.depth + 1 → A.units ≤ fx.A.units + 10 →
 ∀ (β δ : Nat → Addr) (st : St) (s : Shared) (f : Nat) (xs : List AV) (Xs : List Value) (ks : List (Nat × AV)) (Ks : List (Str × Value)), VRs W β st.next xs Xs → KRs W β st.next ks Ks → callFn W.g C f xs ks st ≠ .bad → Inv W fx β δ st s.heap →
  codeAny (model W.prog W.w) A (.call (.ref (W.fa f)) ⟨Xs, Ks⟩) (Ends W fx β δ st s (callFn W.g C f xs ks st)) s
section
variable {W : Wd} {fx : Fx} {β δ β' δ' : Nat → Addr} {st st' : St} {s : Shared} {h' : Heap} {n : Nat} {C : Nat → List AV → St → R AV}
theorem Inv.fr (inv : Inv W fx β δ st s.heap) : ∃ m, Fr W.hb fx.L s.heap m := let ⟨m, a, _⟩ := inv.loc; ⟨m, a, inv.stays, inv.ok.above⟩
theorem K_in (B : Base W) (inv : Inv W fx β δ st s.heap) : W.K.In s.heap := fun a o e => inv.stays a o (B.inK a o e)
theorem KRs.nil : KRs W β n [] [] := ⟨[], .nil, rfl⟩
theorem nm_str (B : Base W) (a b : Nat) (t : Tok) : (Value.str (W.nm a) t).isStr (W.nm b) = decide (a = b) := by
 show (W.nm a == W.nm b) = _
 by_cases q : a = b
 ·subst q; simp
 ·rw [decide_eq_false q]; exact beq_eq_false_iff_ne.mpr fun w => q (B.inj _ _ w)
theorem ARs.find (B : Base W) {as : List (Nat × AV)} {ds : List DictEntry} (x : ARs W β n as ds) (a : Nat) :
  match get? as a with | some v => ∃ V, getL (W.nm a) ds = some (some V) ∧ VR W β n v V | none => getL (W.nm a) ds = some none := by
 have nr : ∀ {as ds}, ARs W β n as ds → ds.any (·.refKey) = false := fun x => by
  induction x with
  | nil => rfl
  | cons _ _ _ ih => rw [List.any_cons, ih]; rfl
 induction x with
 | nil => rfl
 | @cons b h t v V es ds v0 _ x0 ih =>
  unfold get?
  by_cases q : a = b
  ·subst q
   rw [if_pos rfl]
   refine ⟨V, ?_, v0⟩
   unfold getL
   rw [List.find?_cons_of_pos]
   rw [nm_str B]; simp
  ·rw [if_neg q]
   have e : getL (W.nm a) (⟨h, .str (W.nm b) t, V⟩ :: ds) = getL (W.nm a) ds := by
    unfold getL
    rw [List.find?_cons_of_neg (by rw [nm_str B]; simpa using fun w => q w.symm), List.any_cons]
    rfl
   rw [e]; exact ih
theorem ARs.put (B : Base W) {as : List (Nat × AV)} {ds : List DictEntry} (x : ARs W β n as ds) {a : Nat} {v : AV} {V : Value} (hv : VR W β n v V) (hh : Int) (t : Tok) :
  ARs W β n (Mine.put as a v) (putL (W.nm a) hh (.str (W.nm a) t) V ds) := by
 have gp : ∀ (as : List (Nat × AV)) (a b : Nat) (v : AV), b ≠ a → get? (Mine.put as a v) b = get? as b := fun as a b v q => by
  induction as with
  | nil => simp [Mine.put, get?, q]
  | cons p r ih =>
   obtain ⟨c, d⟩ := p; unfold Mine.put
   split
   ·rename_i qq; subst qq; simp [get?, q]
   ·by_cases w : b = c <;> simp [get?, w, ih]
 induction x with
 | nil => exact .cons hv (by intro x; simp [get?]) .nil
 | @cons b h t v0 V0 es ds hv0 hn x0 ih =>
  unfold Mine.put putL
  by_cases q : a = b
  ·subst q
   rw [if_pos rfl, if_pos (by rw [nm_str B]; simp)]
   exact .cons hv hn x0
  ·rw [if_neg q, if_neg (by rw [nm_str B]; simpa using fun w => q w.symm)]
   refine .cons hv0 (fun x => ?_) ih
   rw [gp _ _ _ _ fun w => q w.symm]; exact hn x
theorem put_len (m : List (Nat × AV)) (i : Nat) (v : AV) : (Mine.put m i v).length ≤ m.length + 1 := by
 induction m with
 | nil => simp [Mine.put]
 | cons p r ih => obtain ⟨a, b⟩ := p; unfold Mine.put; split <;> simp; omega
theorem ARs.len {as : List (Nat × AV)} {ds : List DictEntry} (x : ARs W β n as ds) : as.length = ds.length := by
 induction x with
 | nil => rfl
 | cons _ _ _ ih => simp [ih]
theorem VR.handed {v : AV} {V : Value} (x : VR W β n v V) (p : v.plain = true) : handedIn V = true := by
 cases v with
 | none => cases x; rfl
 | bool b => cases x; rfl
 | int i => obtain ⟨t, rfl⟩ := x; rfl
 | str k => obtain ⟨t, rfl⟩ := x; rfl
 | msg => obtain ⟨a, t, rfl⟩ := x; rfl
 | gl k => exact ftE p
 | loc l => obtain ⟨_, rfl⟩ := x; rfl
set_option backward.match.sparseCases true in
theorem wants_call {M : Program} {w : World} {A : Around} {f : Value} {Xs : List Value} {Ks : List (Str × Value)} {Q E : Value → Shared → Prop} (h : codeAny (model M w) A (.call f ⟨Xs, Ks⟩) (fun r s' => match r with | .ok (.ret V) => Q V s' | .ok _ => False | .error e => E e s') s) :
  wpAny (model M w) A (call f Xs Ks) Q E s := wpAny_call h
theorem Raised.only {α υ : Type} {r : R α} {k : α → St → R υ} {e : Value} {s' : Shared} (nb : r.only.bnd k ≠ .bad) (x : Raised W fx β δ st s r e s') : False := by
 obtain ⟨c, cl, st', _, _, _, e1, _⟩ := x
 subst e1; exact nb rfl
theorem After.toks {α τ : Type} {r : R α} {good : Good α τ} {x : τ} {s' : Shared} {k : Nat} (a : After W fx β δ st { s with toks := k } r good x s') : After W fx β δ st s r good x s' := by
 obtain ⟨v, st', β', δ', e1, e2, e3, e4, e5⟩ := a
 exact ⟨v, st', β', δ', e1, e2, e3, e4, by rw [e5]⟩
theorem Raised.toks {α : Type} {r : R α} {x : Value} {s' : Shared} {k : Nat} (a : Raised W fx β δ st { s with toks := k } r x s') : Raised W fx β δ st s r x s' := by
 obtain ⟨c, cl, st', β', δ', e, e1, e2, e3, e4, e5, e6⟩ := a
 exact ⟨c, cl, st', β', δ', e, e1, e2, e3, e4, e5, by rw [e6]⟩
theorem After.then {α τ υ ρ : Type} {r : R α} {k : α → St → R υ} {good : Good α τ} {good' : Good υ ρ} {x : τ} {y : ρ} {s' : Shared} (a : After W fx β δ st s r good x s') (h : ∀ v st' β' δ', r = .ok v st' → good β' δ' st' v x → ∃ u, k v st' = .ok u st' ∧ good' β' δ' st' u y) :
  After W fx β δ st s (r.bnd k) good' y s' := by
 obtain ⟨v, st', β', δ', e1, e2, e3⟩ := a
 refine xo1_2 (h _ _ _ _ e1 e2) fun u f1 f2 => ?_
 exact ⟨u, st', β', δ', by rw [e1]; exact f1, f2, e3⟩
theorem Raised.then {α υ : Type} {r : R α} {k : α → St → R υ} {x : Value} {s' : Shared} (a : Raised W fx β δ st s r x s') : Raised W fx β δ st s (r.bnd k) x s' := by
 obtain ⟨c, cl, st', β', δ', e, e1, e2⟩ := a
 exact ⟨c, cl, st', β', δ', e, by rw [e1]; rfl, e2⟩
theorem R.only_ok {α : Type} {r : R α} {v : α} {st : St} (e : r = .ok v st) : r.only = .ok v st := by rw [e]; rfl
theorem inst_at {l c : Nat} {as : List (Nat × AV)} (inv : Inv W fx β δ st s.heap) (q : st.heap l = some (.inst c as)) : ∃ ds ep, InstAt s.heap (β l) (instObj (W.ca c) (δ l)) (W.ca c) (some (dictOf ds ep)) ∧ s.heap.get? (β l) = some (instObj (W.ca c) (δ l)) ∧ s.heap.get? (δ l) = some (dictOf ds ep) ∧ ARs W β st.next as ds ∧ as.length ≤ 21 := by
 obtain ⟨z1, ds, ep, z2, z3, z4⟩ := inv.rel.obj l _ q
 exact ⟨ds, ep, ⟨z1, rfl, rfl, z2⟩, z1, z2, z3, z4⟩
noncomputable def plainR (r : R AV) : R AV := r.only.bnd fun x s => if x.plain then .ok x s else .bad
theorem plain_after {r : R AV} {X : Value} {s' : Shared} (nb : plainR r ≠ .bad) (a : After W fx β δ st s r (gV W) X s') : After W fx β δ st s (plainR r) (gV W) X s' ∧ handedIn X = true := by
 obtain ⟨v, st', β', δ', rfl, e2, e3⟩ := a
 have e : plainR (.ok v st') = if v.plain then .ok v st' else .bad := rfl
 rw [e] at nb ⊢
 by_cases hp : v.plain = true
 ·rw [if_pos hp]; exact ⟨⟨v, st', β', δ', rfl, e2, e3⟩, e2.handed hp⟩
 ·rw [if_neg hp] at nb; exact (nb rfl).elim
theorem getA_ok (B : Base W) (K : Clss W) (CO : CallsOk W fx C) {v : AV} {V : Value} {a : Nat} (hv : VR W β st.next v V) : Ok W fx (getAttr V (W.nm a) true) β δ st (getA W.g C v a st) (gV W) := by
 refine .toA (.asLoc (T := fun V => getAttr V (W.nm a) true) hv fun l hl => .atObj fun o q => .onInst fun c as e => ?_)
 subst e
 cases qm : W.g.me c a with
 | data =>
  have D := K c (.inl ⟨a, by rw [qm]; nofun⟩)
  dsimp only
  cases qa : get? as a with
  | none => exact .bad
  | some x =>
   refine .ifp fun hp _ s inv => ?_
   refine xo2_5 (inst_at inv q) fun ds ep I e3_ e4_ z3 e6_ => ?_; clear e3_; clear e4_; clear e6_
   have := z3.find B a
   rw [qa] at this
   refine xo1_2 this fun X e1 e2 => ?_; clear this
   refine xo1_1 inv.fr fun m F => ?_
   exact get_own F B.inK I (D.get a) D.hasDict (D.data a qm) rfl e1 (e2.handed hp) (.tok inv e2)
 | prop f g =>
  intro nb s inv
  refine xo2_2 (inst_at inv q) fun ds ep I e3_ => ?_; clear e3_
  refine xo1_1 inv.fr fun m F => ?_
  have D := K c (.inl ⟨a, by rw [qm]; nofun⟩)
  refine xo2_5 (D.prop a f g qm) fun p rest p1 p2 p3 p4 p5 => ?_
  have nb : plainR (callFn W.g C f [.loc l] [] st) ≠ .bad := nb
  refine get_prop F B.inK I (D.get a) D.hasDict p1 p2 p3 p4 (codeAny_mono (CO fx.A.in1 rfl rfl (Nat.le_succ _) (by show fx.A.units + 1 ≤ _; omega) β δ st { s with toks := s.toks + 1 } f [.loc l] [.ref (β l)] [] [] (.cons ⟨hl, rfl⟩ .nil) .nil (fun e => nb (by rw [e]; rfl)) inv) fun r s' hr => ?_)
  match r, hr with
  | .ok (.ret X), hr =>
   refine xo0_2 (plain_after nb (After.toks (show After W fx β δ st { s with toks := s.toks + 1 } _ (gV W) X s' from hr))) fun h1 h2 => ?_
   exact wpAny_of_eq (handedOut_of h2) h1
  | .error e, hr => exact ((show Raised W fx β δ st { s with toks := s.toks + 1 } _ e s' from hr).only nb).elim
 | _ => exact .bad
theorem setattr_raw {M : Program} {w : World} {A : Around} {K : Frag} {x C dx : Addr} {name : Str} {tk : Tok} {v : Value} {es : List DictEntry} {ep : Nat} {R : Result → Shared → Prop} (X : K.In s.heap) (I : InstAt s.heap x (instObj C dx) C (some (dictOf es ep)))
  (hd : s.heap.get? dx = some (dictOf es ep)) (hp : plainOver K C = true) (ht : takerIn K C name = some none) (hh : hasDictIn K C = true) (hl : (getL name es).isSome = true)
  (hz : (putL name (PyData.keyHash w.params name) (.str name s.toks) v es).length ≤ 1000)
  (h : R (.ok (.ret .none)) { s with heap := s.heap.update dx (Obj.putName name (PyData.keyHash w.params name) (.str name s.toks) v), toks := s.toks + 1 }) :
  codeAny (model M w) A (.call (.builtin "object.__setattr__") ⟨[.ref x, .str name tk, v], []⟩) R s := by
 refine osa_open X I hp ht fun b => ?_
 refine xo1_2 (any_some hh) fun cd hc hd' => ?_
 have D' : (s.heap.update dx (Obj.putName name (PyData.keyHash w.params name) (.str name s.toks) v)).get? dx = some (dictOf (putL name (PyData.keyHash w.params name) (.str name s.toks) v es) (putN name es ep)) := by
  have := get_update (Obj.putName name (PyData.keyHash w.params name) (.str name s.toks) v) hd (by rw [putName_dict]; rfl)
  rwa [putName_dict] at this
 obtain ⟨hx, -, -, -⟩ := I
 refine wpAny_bind (wpAny_pure (wpAny_bind (wpAny_bind (wpAny_loadPart hx (wpAny_bind ((looks_clsIn X hc).here ?_))))))
 rw [hd']
 refine wpAny_pure (a := some dx) (wpAny_bind (wpAny_pure (wpAny_bind ?_)))
 unfold nsSet
 refine wpAny_bind (wpAny_bind (wpAny_askSetting (wpAny_pure (wpAny_bind (wpAny_mkText (wpAny_bind (wpAny_loadPart hd ?_)))))))
 have c : (!es.toArray.any (·.key.isStr name) && es.toArray.any (·.refKey)) = false := by
  rw [← Array.any_toList, ← Array.any_toList]
  show (!es.any (·.key.isStr name) && es.any (·.refKey)) = false
  unfold getL at hl
  split at hl
  ·rename_i en he
   rw [List.any_eq_true.mpr ⟨en, List.mem_of_find?_eq_some he, List.find?_some he⟩]; rfl
  ·split at hl
   ·exact ftE hl
   ·rename_i z; rw [Bool.not_eq_true] at z; rw [z, Bool.and_false]
 dsimp only
 rw [aRefKeyMayBeTheName_at, c]
 refine wpAny_updatePart hd ?_
 refine wpAny_bind (wpAny_lookBehind D' (pastItsLine_dict (by rw [List.size_toArray, sizeLine_eq]; omega)) ?_)
 exact wpAny_pure h
theorem takes_none {K : Frag} {C : Addr} {name : Str} (e : findIn K (.ref C) name = some none) : takerIn K C name = some none := by unfold takerIn; rw [e]; rfl
theorem takes_some {K : Frag} {C p : Addr} {name : Str} (e : findIn K (.ref C) name = some (some (.ref p))) (t : takesIn K (.ref p) = some true) : takerIn K C name = some (some (.ref p)) := by
 unfold takerIn; rw [e]; show (takesIn K (.ref p)).map _ = _; rw [t]; rfl
theorem set_own {l c a : Nat} {as : List (Nat × AV)} {x : AV} {X : Value} {k : Nat} (B : Base W) (inv : Inv W fx β δ st s.heap) (q : st.heap l = some (.inst c as)) (hx : VR W β st.next x X) (hz : as.length ≤ 20) {ds : List DictEntry} {ep : Nat} (z1 : s.heap.get? (β l) = some (instObj (W.ca c) (δ l))) (z2 : s.heap.get? (δ l) = some (dictOf ds ep)) (z3 : ARs W β st.next as ds) {t : Tok} :
  After W fx β δ st s (.ok () (st.set l (.inst c (put as a x)))) gU () { s with heap := s.heap.update (δ l) (Obj.putName (W.nm a) (PyData.keyHash W.w.params (W.nm a)) (.str (W.nm a) t) X), toks := k } := by
 have hput := z3.put B hx (a := a) (PyData.keyHash W.w.params (W.nm a)) t
 have hle := put_len as a x
 have D' := get_update (Obj.putName (W.nm a) (PyData.keyHash W.w.params (W.nm a)) (.str (W.nm a) t) X) z2 (by rw [putName_dict]; rfl)
 rw [putName_dict] at D'
 have hne : β l ≠ δ l := fun e => by rw [← e, z1] at z2; exact absurd z2 nofun
 exact .mk (inv.upd q (Heap.SameBut.update ..) (.inr rfl) ⟨(Heap.get?_update_other _ _ hne.symm).trans z1, _, _, D', hput, by omega⟩ ⟨_, D'⟩) trivial
theorem setA_ok (B : Base W) (K : Clss W) (CO : CallsOk W fx C) {v x : AV} {V X : Value} {a : Nat} (hv : VR W β st.next v V) (hx : VR W β st.next x X) : Ok W fx (setAttr V (W.nm a) X) β δ st (setA W.g C v a x st) gU := by
 refine .toA (.asLoc (T := fun V => setAttr V (W.nm a) X) hv fun l hl => .atObj fun o q => .onInst fun c as e => ?_)
 subst e
 cases qm : W.g.me c a with
 | data =>
  have D := K c (.inl ⟨a, by rw [qm]; nofun⟩)
  refine .ifp fun hz _ s inv => ?_
  refine xo2_5 (inst_at inv q) fun ds ep I z1 z2 z3 z4 => ?_
  have X0 := K_in B inv
  have gl : (getL (W.nm a) ds).isSome = true := by
   have := z3.find B a
   split at this
   ·obtain ⟨_, e, _⟩ := this; rw [e]; rfl
   ·rw [this]; rfl
  have hlen := (z3.put B hx (a := a) (PyData.keyHash W.w.params (W.nm a)) (s.toks + 1)).len
  have hle := put_len as a x
  exact set_plain X0 I D.setattr (setattr_raw (s := { s with toks := s.toks + 1 }) X0 I z2 D.over (takes_none (D.data a qm)) D.hasDict gl (Nat.le_trans (Nat.le_of_eq hlen.symm) (by omega)) (set_own B inv q hx hz z1 z2 z3))
 | prop f g =>
  intro nb s inv
  refine xo2_2 (inst_at inv q) fun ds ep I e3_ => ?_; clear e3_
  have X0 := K_in B inv
  have D := K c (.inl ⟨a, by rw [qm]; nofun⟩)
  refine xo2_5 (D.prop a f g qm) fun p rest p1 p2 p3 p4 p5 => ?_
  have nb : ((callFn W.g C g [.loc l, x] [] st).bnd fun _ s => R.ok () s) ≠ .bad := nb
  refine set_plain X0 I D.setattr (osa_descr (s := { s with toks := s.toks + 1 }) KF.slot_pset X0 I D.over (takes_some p1 p3) p5 (prop_set (s := { s with toks := s.toks + 1 }) X0 p4 (codeAny_mono
   (CO fx.A.in1.in1 rfl rfl (Nat.le_succ _) (by show fx.A.units + 1 + 1 ≤ _; omega) β δ st { s with toks := s.toks + 1 } g [.loc l, x] [.ref (β l), X] [] [] (.cons ⟨hl, rfl⟩ (.cons hx .nil)) .nil (fun e => nb (by rw [e]; rfl)) inv) fun r s' hr => ?_)))
  match r, hr with
  | .ok (.ret Y), hr => exact (show After W fx β δ st { s with toks := s.toks + 1 } _ (gV W) Y s' from hr).toks.then fun v st' β' δ' _ _ => ⟨(), rfl, trivial⟩
  | .error e, hr => exact (show Raised W fx β δ st { s with toks := s.toks + 1 } _ e s' from hr).toks.then
 | _ => exact .bad
end
end Mine
end
section
open PySem PySem.W PyProof.Rows PySem.Calls PySem.SeqAt
namespace Mine
structure Near (fx : Fx) (A : Around) : Prop where
 handled : A.handled = fx.A.handled
 frames : A.frames = fx.A.frames
 depth : A.depth ≤ fx.A.depth + 1
 units : A.units ≤ fx.A.units + 8
noncomputable def Roomy (fx : Fx) : Prop := fx.A.units + 20 < cLine
abbrev gBv : Good Bool Value := fun _ _ _ a V => V = .bool a
section
variable {W : Wd} {fx : Fx} {β δ β' δ' : Nat → Addr} {st st' : St} {s : Shared} {h' : Heap} {n : Nat} {C : Nat → List AV → St → R AV} {A : Around}
theorem Near.self : Near fx fx.A := ⟨rfl, rfl, Nat.le_succ _, by omega⟩
theorem Near.in1 : Near fx fx.A.in1 := ⟨rfl, rfl, Nat.le_succ _, by show fx.A.units + 1 ≤ _; omega⟩
theorem Near.in2 : Near fx fx.A.in1.in1 := ⟨rfl, rfl, Nat.le_succ _, by show fx.A.units + 1 + 1 ≤ _; omega⟩
theorem bool_ok {α : Type} {r : R AV} {x : Value} {s' : Shared} (nb : (r.only.bnd fun v s => asBool v fun b => (.ok b s : R Bool)) ≠ .bad) (a : After W fx β δ st s r (gV W) x s') :
  ∃ b, x = .bool b ∧ After W fx β δ st s (r.only.bnd fun v s => asBool v fun b => (.ok b s : R Bool)) gBv x s' := by
 obtain ⟨v, st', β', δ', e1, e2, e3⟩ := a
 subst e1
 cases v with
 | bool b => cases e2; exact ⟨b, rfl, b, st', β', δ', rfl, rfl, e3⟩
 | _ => exact (nb rfl).elim
theorem inst_cmp {f l k c m : Nat} {as bs : List (Nat × AV)} {op : CmpOp} (B : Base W) (K : Clss W) (CO : CallsOk W fx C) (N : Near fx A) (rm : Roomy fx) (hn : W.nm m = ((cmpInfo op).2.1 : Str)) (hf : W.g.me c m = .fn f) (ha : st.heap l = some (.inst c as)) (hb : st.heap k = some (.inst c bs)) :
  OkA W fx A (richCompare op (.ref (β l)) (.ref (β k))) β δ st ((callFn W.g C f [.loc l, .loc k] [] st).only.bnd fun v s => asBool v fun b => .ok b s) gBv := fun nb s inv => by
 refine xo2_2 (inst_at inv ha) fun ds ep I e3_ => ?_; clear e3_
 refine xo2_2 (inst_at inv hb) fun ds' ep' I' e3_ => ?_; clear e3_
 refine xo1_1 inv.fr fun mm F => ?_
 have D := K c (.inl ⟨m, by rw [hf]; nofun⟩)
 refine xo0_2 (D.meth _ _ hf) fun d1 d2 => ?_
 rw [hn] at d1
 have hu : A.units < cLine := Nat.lt_of_le_of_lt N.units (by unfold Roomy at rm; omega)
 have key := CO A N.handled N.frames N.depth (Nat.le_trans N.units (by omega)) β δ st s f [.loc l, .loc k] [.ref (β l), .ref (β k)] [] [] (.cons ⟨inv.rel.some_lt _ _ ha, rfl⟩ (.cons ⟨inv.rel.some_lt _ _ hb, rfl⟩ .nil)) .nil (fun e => nb (by rw [e]; rfl)) inv
 refine cmp_K (tb := .ref (W.ca c)) hu F B.inK I I'.type (by unfold notFirst; simp) d1 d2 (wpAny_call (codeAny_mono key fun r s' hr => ?_))
 match r, hr with
 | .ok (.ret X), hr =>
  refine xo1_2 (bool_ok (α := AV) nb (show After W fx β δ st s _ (gV W) X s' from hr)) fun b e a => ?_
  subst e
  exact a
 | .error e, hr => exact ((show Raised W fx β δ st s _ e s' from hr).only nb).elim
theorem cmpI_ok {l k m : Nat} {op : CmpOp} (B : Base W) (K : Clss W) (CO : CallsOk W fx C) (N : Near fx A) (rm : Roomy fx) (hn : W.nm m = ((cmpInfo op).2.1 : Str)) : OkA W fx A (richCompare op (.ref (β l)) (.ref (β k))) β δ st (cmpI W.g C m l k st) gBv := by
 refine .atObj fun x q => .onInst fun c as e => .atObj fun y q' => .onInst fun c' bs e' => .ifp fun hc => ?_
 subst e e' hc
 cases qm : W.g.me c m with
 | fn f => exact inst_cmp B K CO N rm hn qm q q'
 | _ => exact .bad
inductive EqG : AV → AV → Bool → Prop
 | nn : EqG .none .none true
 | ni {i} : EqG .none (.int i) false
 | ns {i} : EqG .none (.str i) false
 | i_n {i} : EqG (.int i) .none false
 | s_n {i} : EqG (.str i) .none false
 | si {i j} : EqG (.str i) (.int j) false
 | is {i j} : EqG (.int i) (.str j) false
 | ii {x y} : EqG (.int x) (.int y) (decide (x = y))
 | ss {x y} : EqG (.str x) (.str y) (decide (x = y))
theorem eqP_eq {a b : AV} {r : Bool} (e : eqP a b = some r) : EqG a b r := by
 cases a <;> first | (cases e; done) | (cases b <;> cases e <;> constructor)
theorem EqG.rc {r : Bool} {a b : AV} {V U : Value} (B : Base W) (h : EqG a b r) (ha : VR W β n a V) (hb : VR W β n b U) : RcAt A s V U r ∧ RcNeAt A s V U (!r) := by
 cases h with
 | nn => cases ha; cases hb; exact ⟨.none_none, .none_none⟩
 | ni => cases ha; obtain ⟨u, rfl⟩ := hb; exact ⟨.none_int _ _, .none_int _ _⟩
 | ns => cases ha; obtain ⟨u, rfl⟩ := hb; exact ⟨.none_str _ _, .none_str _ _⟩
 | i_n => cases hb; obtain ⟨u, rfl⟩ := ha; exact ⟨.int_none _ _, .int_none _ _⟩
 | s_n => cases hb; obtain ⟨u, rfl⟩ := ha; exact ⟨.str_none _ _, .str_none _ _⟩
 | si => obtain ⟨u, rfl⟩ := ha; obtain ⟨t, rfl⟩ := hb; exact ⟨.str_int _ _ _ _, .str_int _ _ _ _⟩
 | is => obtain ⟨u, rfl⟩ := ha; obtain ⟨t, rfl⟩ := hb; exact ⟨.int_str _ _ _ _, .int_str _ _ _ _⟩
 | ii => obtain ⟨u, rfl⟩ := ha; obtain ⟨t, rfl⟩ := hb; exact ⟨.int_int _ _ _ _, .int_int _ _ _ _⟩
 | @ss x y =>
  obtain ⟨u, rfl⟩ := ha; obtain ⟨t, rfl⟩ := hb
  have e : decide (x = y) = (W.nm x == W.nm y) := by
   by_cases q : x = y
   ·subst q; simp
   ·rw [decide_eq_false q, beq_eq_false_iff_ne.mpr fun w => q (B.inj _ _ w)]
  rw [e]
  exact ⟨.str_str _ _ _ _, .str_str _ _ _ _⟩
theorem eqR_ok {T : Sem Value} {a b : AV} {f : Bool → Bool} (h : ∀ r s (E : Value → Shared → Prop) (Q : Value → Shared → Prop), EqG a b r → Q (.bool (f r)) s → wpAny (model W.prog W.w) A T Q E s) : OkA W fx A T β δ st (eqR a b f st) gBv := by
 unfold eqR
 cases q : eqP a b with
 | none => exact .bad
 | some r => exact fun _ s inv => h r s _ _ (eqP_eq q) (.now inv rfl)
theorem eqv_ok (B : Base W) (Wo : Words W) (K : Clss W) (CO : CallsOk W fx C) (N : Near fx A) (rm : Roomy fx) {a b : AV} {V U : Value} (ha : VR W β st.next a V) (hb : VR W β st.next b U) : OkA W fx A (richCompare .Eq V U) β δ st (eqv W.g C a b st) gBv := by
 cases a with
 | loc l => obtain ⟨_, rfl⟩ := ha; exact .asLoc (T := fun U => richCompare .Eq _ U) hb fun k hk => cmpI_ok B K CO N rm Wo.eqN
 | _ => exact eqR_ok fun r s E Q h hq => (h.rc B ha hb).1 _ _ _ _ hq
theorem eqBool_ref {M : Model} {x y : Addr} {E : Value → Shared → Prop} {Q : Bool → Shared → Prop} (hne : x ≠ y) (h : wpAny M A (richCompare .Eq (.ref x) (.ref y)) (fun v s' => ∃ b, v = .bool b ∧ Q b s') E s) : wpAny M A (eqBool (.ref x) (.ref y)) Q E s := by
 unfold eqBool
 refine wpAny_holding ?_
 rw [if_neg (by simpa using hne)]
 refine wpAny_bind (wpAny_mono h (fun v s' hv => ?_) fun _ _ e => e)
 refine xo1_2 hv fun b e1_ hq => ?_; clear hv; obtain rfl := e1_
 exact wpAny_truthy_bool hq
theorem eqBool_same {M : Model} {x : Addr} {E : Value → Shared → Prop} {Q : Bool → Shared → Prop} (h : Q true s) : wpAny M A (eqBool (.ref x) (.ref x)) Q E s := by
 unfold eqBool
 refine wpAny_holding ?_
 rw [if_pos (by simp)]
 exact wpAny_bind (wpAny_rule (wpAny_pure h))
abbrev FinQ (R : Result → Shared → Prop) (P : Program) (w : World) (A : Around) (fin : Fin) (s' : Shared) : Prop := match fin with | .done f => R (.ok f) s' | .again c' => c'.quiet = true ∧ codeAny (model P w) A c' R s'
theorem remove_step {P : Program} {w : World} {R : Result → Shared → Prop} {l : Addr} {items : Array Value} {n i : Nat} {x y : Value} (hl : IsL s.heap l items n) (hy : items[i]? = some y)
  (h : wpAny (model P w) A.in1 (eqBool y x) (fun b s' => if b then (∃ its k, IsL s'.heap l its k ∧ its.size ≤ sizeLine ∧ R (.ok (.ret .none)) { s' with heap := s'.heap.update l (Obj.mapSeq fun xs => xs.eraseIdxIfInBounds i) })
   else codeAny (model P w) A (.builtin "list.remove.loop" ⟨[.ref l, x, rawInt ((i + 1 : Nat) : Int)], []⟩) R s') (fun e s' => R (.error e) s') s) :
  wpAny (model P w) A.in1 (Builtin.«list.remove.loop» ⟨[.ref l, x, rawInt (i : Int)], []⟩) (FinQ R P w A) (fun e s' => R (.error e) s') s := by
 obtain ⟨hp, g, d, tk, os⟩ := s
 wp_walk using wpAny_loadPart' hl
 have hi : items[((i : Nat) : Int).toNat]? = some y := by simpa using hy
 have hc : ((i : Int) + 1) = ((i + 1 : Nat) : Int) := by push_cast; rfl
 rw [hi]
 refine wpAny_bind (wpAny_mono h (fun b s' hb => ?_) fun _ _ e => e)
 cases b with
 | true =>
  simp only [if_true] at hb
  refine xo2_3 hb fun its k hl' hz hq => ?_; clear hb
  have hz' : (its.eraseIdxIfInBounds i).size ≤ sizeLine + 1 := Nat.le_trans (MeetsSeq.size_erased its _) (Nat.le_succ_of_le hz)
  wp_walk using (wpAny_updateSeq hl' rfl (hz := hz) (_hz' := hz')), wpAny_loadPart' hl'
  simpa using hq
 | false =>
  simp only [Bool.false_eq_true, if_false] at hb
  wp_walk
  rw [hc]
  exact ⟨plainId_quiet MeetsSeq.plain_remove_loop _, hb⟩
abbrev gBb : Good Bool Bool := fun _ _ _ a b => b = a
theorem eqIt_ok (B : Base W) (Wo : Words W) (K : Clss W) (CO : CallsOk W fx C) (N : Near fx A) (rm : Roomy fx) {y x : AV} {Y X : Value} (hy : VR W β st.next y Y) (hx : VR W β st.next x X) : OkA W fx A (eqBool Y X) β δ st (eqIt W.g C y x st) gBb := by
 cases y with
 | int p => obtain ⟨t, rfl⟩ := hy; exact .asInt (T := fun X => eqBool _ X) hx fun q u _ s inv => EqAt.int_int _ _ _ _ _ _ _ _ (.now inv rfl)
 | loc p =>
  refine xo0_2 hy fun h1 e1_ => ?_; clear hy; obtain rfl := e1_
  refine .asLoc (T := fun X => eqBool _ X) hx fun q h2 => ?_
  by_cases w : p = q
  ·subst w
   rw [if_pos rfl]
   exact fun _ s inv => eqBool_same (.now inv rfl)
  ·rw [if_neg w]
   intro nb s inv
   exact eqBool_ref (fun e => w (inv.rel.bb _ _ h1 h2 e)) (wpAny_mono (eqv_ok B Wo K CO N rm (a := .loc p) (b := .loc q) ⟨h1, rfl⟩ ⟨h2, rfl⟩ nb s inv) (fun v s' ⟨t, st', β', δ', f1, f2, f3⟩ => ⟨t, f2, t, st', β', δ', f1, rfl, f3⟩) fun _ _ e => e)
 | _ => exact .bad
theorem cut_ok {l i : Nat} (nb : cutAt l i st ≠ .bad) (inv : Inv W fx β δ st s.heap) : ∃ its k', IsL s.heap (β l) its k' ∧ its.size ≤ sizeLine ∧
  After W fx β δ st s (cutAt l i st) (gV W) .none { s with heap := s.heap.update (β l) (Obj.mapSeq fun xs => xs.eraseIdxIfInBounds i) } := by
 obtain ⟨ws, hw⟩ : ∃ ws, st.heap l = some (.list ws) := by
  unfold cutAt atObj at nb
  cases q : st.heap l with
  | none => rw [q] at nb; exact (nb rfl).elim
  | some o => rw [q] at nb; cases o <;> first | exact ⟨_, rfl⟩ | exact (nb rfl).elim
 have e : cutAt l i st = .ok .none (st.set l (.list (ws.eraseIdx i))) := by unfold cutAt atObj; rw [hw]; rfl
 rw [e]
 obtain ⟨Ws, ep', a', b', d'⟩ := inv.rel.obj l _ hw
 have hlen' := b'.length
 exact ⟨Ws.toArray, ep', a', by rw [sizeLine_eq]; simp; omega, .mk (inv.listed hw a' (Ws := Ws.eraseIdx i) (by rw [Array.eraseIdxIfInBounds_eq]; split <;> simp_all [List.eraseIdx_of_length_le]) (b'.erase i) (Nat.le_trans (List.length_eraseIdx_le ..) d')) rfl⟩
theorem Ends.trans {r : R AV} {x : Result} {s' : Shared} (g : Go fx β δ st s.heap β' δ' st' s'.heap) (e : s' = { s with heap := s'.heap, toks := s'.toks }) {s'' : Shared} (h : Ends W fx β' δ' st' s' r x s'') : Ends W fx β δ st s r x s'' := by
 match x, h with
 | .ok (.ret V), h => exact After.trans g e h
 | .error _, h => exact Raised.trans g e h
theorem removeAt_eq {g : Sig} {l : Nat} {x : AV} {k n : Nat} {s : St} (nb : removeAt g C l x (k + 1) n s ≠ .bad) : ∃ zs, s.heap l = some (.list zs) ∧ removeAt g C l x (k + 1) n s = match zs[n]? with
  | some y => (eqIt g C y x s).bnd fun t s => if t then cutAt l n s else removeAt g C l x k (n + 1) s
  | none => .bad := by
 revert nb
 show atObj s l _ ≠ _ → ∃ zs, _ ∧ atObj s l _ = _
 unfold atObj
 cases q : s.heap l with
 | none => exact fun nb => (nb rfl).elim
 | some o => cases o <;> first | exact fun _ => ⟨_, rfl, rfl⟩ | exact fun nb => (nb rfl).elim
theorem remove_loop (B : Base W) (Wo : Words W) (K : Clss W) (CO : CallsOk W fx C) (N : Near fx A.in1) (rm : Roomy fx) {x : AV} {X : Value} {l : Nat} : ∀ (k i : Nat) (β δ : Nat → Addr) (st : St) (s : Shared), VR W β st.next x X → removeAt W.g C l x k i st ≠ .bad → Inv W fx β δ st s.heap →
  codeAny (model W.prog W.w) A (.builtin "list.remove.loop" ⟨[.ref (β l), X, rawInt (i : Int)], []⟩) (Ends W fx β δ st s (removeAt W.g C l x k i st)) s := by
 intro k
 induction k with
 | zero => intro i β δ st s _ nb; exact (nb rfl).elim
 | succ k ih =>
  intro i β δ st s hx nb inv
  refine xo1_2 (removeAt_eq nb) fun zs q e => ?_
  rw [e] at nb ⊢
  clear e
  have hl := inv.rel.some_lt l _ q
  obtain ⟨Vs, ep, a, b, d⟩ := inv.rel.obj l _ q
  clear q
  refine codeAny_builtin MeetsSeq.entry_remove_loop ?_
  rw [Around.under_plainId MeetsSeq.plain_remove_loop _]
  cases qx : zs[i]? with
  | none => rw [qx] at nb; exact (nb rfl).elim
  | some y =>
   rw [qx] at nb
   refine xo1_2 (b.get qx) fun Y e1 e2 => ?_
   clear qx d b
   refine remove_step a (y := Y) (by simpa using e1) ?_
   clear a e1
   dsimp only at nb ⊢
   refine wpAny_mono (eqIt_ok B Wo K CO N rm e2 hx (fun e => nb (by rw [e]; rfl)) s inv) (fun t s' hv => ?_) fun e s' he => Raised.then he
   obtain ⟨t', st', β', δ', f1, f2, f3, f4, f5⟩ := hv
   rw [f1, R.bnd_ok] at nb ⊢
   subst f2
   have hb := (f4.same l hl).1
   rw [← hb]
   cases t with
   | true =>
    rw [if_pos rfl] at nb ⊢
    refine xo2_3 (cut_ok nb f3) fun its k' z1 z2 z3 => ?_
    exact ⟨its, k', z1, z2, z3.trans f4 f5⟩
   | false => exact codeAny_mono (ih (i + 1) β' δ' st' s' (hx.mono f4.next fun l hl => (f4.same l hl).1) nb f3) fun r s'' hr => hr.trans f4 f5
end
end Mine
end
section
open PySem PySem.W PyProof.Rows PySem.Calls PySem.SeqAt
namespace Mine
section
variable {W : Wd} {fx : Fx} {β δ β' δ' : Nat → Addr} {st st' : St} {s : Shared} {h' : Heap} {n : Nat} {C : Nat → List AV → St → R AV} {A : Around}
theorem intsR_ok {f : Int → Int → Bool} {a b : AV} {V U : Value} {op : CmpOp} (ha : VR W β st.next a V) (hb : VR W β st.next b U)
  (h : ∀ {x t y u s} {Q E : Value → Shared → Prop}, Q (.bool (f x y)) s → wpAny (model W.prog W.w) fx.A (compareOp op (.int x t) (.int y u)) Q E s) : Ok W fx (compareOp op V U) β δ st (intsR a b st f) gBv :=
 .toA (.asInt (T := fun V => compareOp op V U) ha fun _ _ => .asInt (T := fun U => compareOp op _ U) hb fun _ _ _ s inv => h (.now inv rfl))
theorem isR_ok {f : Bool → Bool} {a b : AV} {V U : Value} {op : CmpOp} (ha : VR W β st.next a V) (hb : VR W β st.next b U)
  (h : ∀ {V s} {Q E : Value → Shared → Prop}, PySem.plainIs V .none = true → Q (.bool (f (V == .none))) s → wpAny (model W.prog W.w) fx.A (compareOp op V .none) Q E s) : Ok W fx (compareOp op V U) β δ st (isR a b f st) gBv := by
 cases b with
 | none =>
  cases hb
  cases a with
  | none => cases ha; exact fun _ s inv => h rfl (.now inv rfl)
  | int i => obtain ⟨t, rfl⟩ := ha; exact fun _ s inv => h rfl (.now inv rfl)
  | str i => obtain ⟨t, rfl⟩ := ha; exact fun _ s inv => h rfl (.now inv rfl)
  | _ => exact .bad
 | _ => exact .bad
theorem int_key (k : Int) (t : Tok) : (intKind W.prog W.w).is k (.int k t) = true := by simp [intKind, Value.isInt]
theorem inR_ok (Wo : Words W) {f : Bool → Bool} {a b : AV} {V U : Value} {op : CmpOp} (ha : VR W β st.next a V) (hb : VR W β st.next b U)
  (h : ∀ {s k t d m} {Q E : Value → Shared → Prop}, (intKind W.prog W.w).is k (.int k t) = true → (d == sysModules) = false → s.heap.MapOf (intKind W.prog W.w) d m → Q (.bool (f (m k).isSome)) { s with toks := s.toks + 1 } → wpAny (model W.prog W.w) fx.A (compareOp op (.int k t) (.ref d)) Q E s) :
  Ok W fx (compareOp op V U) β δ st (inR a b f st) gBv := by
 cases a with
 | int k =>
  refine xo1_1 ha fun t e1_ => ?_; clear ha; obtain rfl := e1_
  refine .toA (.asLoc (T := fun U => compareOp op _ U) hb fun l hl => .atObj fun o q => .onDict fun es e _ s inv => ?_)
  subst e
  obtain ⟨ds, a, b, d⟩ := inv.rel.obj l _ q
  refine h (int_key k t) (not_sm Wo inv hl) a.mapOf (.tok inv (congrArg (fun b => Value.bool (f b)) ?_))
  cases qx : dget? es (.int k) with
  | none => rw [b.miss qx]; rfl
  | some x => obtain ⟨X, e1, _⟩ := b.val qx; rw [e1]; rfl
 | _ => exact .bad
theorem cmpv_ok (B : Base W) (Wo : Words W) (K : Clss W) (CO : CallsOk W fx C) (rm : Roomy fx) {o : Cm} {a b : AV} {V U : Value} (ha : VR W β st.next a V) (hb : VR W β st.next b U) : Ok W fx (compareOp o.dec V U) β δ st (cmpv W.g C o a b st) gBv := by
 cases o with
 | eq => exact eqv_ok B Wo K CO .self rm ha hb
 | ne => exact eqR_ok fun r s E Q h hq => (h.rc B ha hb).2 _ _ _ _ hq
 | lt =>
  have hi : Ok W fx (compareOp .Lt V U) β δ st (intsR a b st fun x y => x < y) gBv := intsR_ok ha hb P.lt_int
  cases a with
  | loc l => obtain ⟨_, rfl⟩ := ha; exact .toA (.asLoc (T := fun U => compareOp .Lt _ U) hb fun k hk => cmpI_ok (op := .Lt) B K CO .self rm Wo.ltN)
  | _ => exact hi
 | le => exact intsR_ok ha hb P.le_int
 | gt => exact intsR_ok ha hb P.gt_int
 | ge => exact intsR_ok ha hb P.ge_int
 | is => exact isR_ok ha hb wpAny_is_plain
 | isnot => exact isR_ok ha hb wpAny_isNot_plain
 | isin => exact inR_ok Wo ha hb wpAny_in_of
 | notin => exact inR_ok Wo ha hb wpAny_notIn_of
theorem isi_ok (B : Base W) (Wo : Words W) (K : Clss W) {v : AV} {V : Value} {k : Nat} (hv : VR W β st.next v V) : Ok W fx (call (biV .isinstance) [V, W.gv k]) β δ st (isiR W.g k v st) (gV W) := by
 cases v with
 | int x => obtain ⟨t, rfl⟩ := hv; exact .toA (.ifp fun e => by rw [e, Wo.intN]; exact fun _ s inv => IsiPair.int_int (.now inv rfl))
 | str x => obtain ⟨t, rfl⟩ := hv; exact .toA (.ifp fun e => by rw [e, Wo.intN]; exact fun _ s inv => IsiPair.str_int (.tok inv rfl))
 | loc l =>
  refine xo0_2 hv fun hl e1_ => ?_; clear hv; obtain rfl := e1_
  refine .toA (.atObj fun o q => .onInst fun c as e => .ifp fun e' => ?_)
  subst e e'
  cases hc : W.g.gk c with
  | cls =>
   intro _ s inv
   rw [(K c (.inr hc)).gv]
   refine xo2_2 (inst_at inv q) fun ds ep I e3_ => ?_; clear e3_
   exact isi_call (K_in B inv) (fun M => I.type) (by unfold isIn; simp) (by nofun) (.now inv rfl)
  | _ => exact .bad
 | _ => exact .bad
theorem len_ok (Wo : Words W) {l : Nat} (hl : l < st.next) : Ok W fx (call (biV .len) [.ref (β l)]) β δ st (atObj st l fun o => (match o with | .list xs => R.ok (.int xs.length) st | .dict es => .ok (.int es.length) st | _ => .bad)) (gV W) := by
 refine .toA (.atObj fun o q => ?_)
 cases o with
 | list xs =>
  intro _ s inv
  obtain ⟨Vs, ep, a, b, d⟩ := inv.rel.obj _ _ q
  have hb := b.length
  exact call_len_list (items := Vs.toArray) (IsL.isList a) (by simp; omega) (.tok inv ⟨s.toks + 1, by simp [hb]⟩)
 | dict es =>
  intro _ s inv
  obtain ⟨ds, a, b, d⟩ := inv.rel.obj _ _ q
  have hb := b.length
  exact call_len_dict (not_sm Wo inv hl) a (by omega) (.tok inv ⟨s.toks + 1, by simp [hb]⟩)
 | _ => exact .bad
theorem callBI_ok (B : Base W) (Wo : Words W) (K : Clss W) {b : BI} {xs : List AV} {Xs : List Value} (hx : VRs W β st.next xs Xs) : Ok W fx (call (biV b) Xs) β δ st (callBI W.g b xs st) (gV W) := by
 cases b with
 | abs => exact .toA (.arg1 (T := fun Xs => call (biV .abs) Xs) hx fun v V hv => .asInt (T := fun V => call (biV .abs) [V]) hv fun x t _ s inv => call_abs_int fun u tk => .tok inv ⟨_, rfl⟩)
 | len => exact .toA (.arg1 (T := fun Xs => call (biV .len) Xs) hx fun v V hv => .asLoc (T := fun V => call (biV .len) [V]) hv fun l hl => len_ok Wo hl)
 | isinstance => exact .toA (.arg2 (T := fun Xs => call (biV .isinstance) Xs) hx fun v V u U hv hu => .asGl (T := fun U => call (biV .isinstance) [V, U]) hu fun k => isi_ok B Wo K hv)
 | range =>
  exact .toA (.arg1 (T := fun Xs => call (biV .range) Xs) hx fun v V hv => .asInt (T := fun V => call (biV .range) [V]) hv fun x t => .ifp fun e _ s inv =>
   call_range_1 (inv.pushed (o := .rng _) rfl ⟨⟨s.toks, t, s.toks + 1, by rw [ext_eq]; exact push_get _ rfl⟩, e⟩))
 | sorted => exact .bad
noncomputable def MtVal (W : Wd) (mt : Mt) (F : Value) : Prop := match mt with | .fn f => F = .ref (W.fa f) | .append => F = .builtin "list.append" | .lpop => F = .builtin "list.pop" | .remove => F = .builtin "list.remove" | .dpop => F = .builtin "dict.pop"
theorem call_remove {P : Program} {w : World} {l : Addr} {items : Array Value} {k : Nat} {x : Value} {E : Value → Shared → Prop} {Q : Value → Shared → Prop} (hl : IsL s.heap l items k)
  (h : codeAny (model P w) A (.builtin "list.remove.loop" ⟨[.ref l, x, rawInt ((0 : Nat) : Int)], []⟩) (wants Q E) s) : wpAny (model P w) A (call (.builtin "list.remove") [.ref l, x]) Q E s := by
 refine wpAny_call (codeAny_call_builtin F.slot_list_remove.plain F.entry_list_remove (F.slot_list_remove.check _ _ _ _ _ _ _ _ ⟨_, hl, rfl⟩ (F.args_list_remove_2 _ _) ?_))
 obtain ⟨hp, g, d, tk, os⟩ := s
 wp_walk
 exact ⟨plainId_quiet MeetsSeq.plain_remove_loop _, h⟩
theorem append_ok {l : Nat} {ys : List AV} {x : AV} {X : Value} (q : st.heap l = some (.list ys)) (hX : VR W β st.next x X) (hz : ys.length ≤ 1000) : Ok W fx (call (.builtin "list.append") [.ref (β l), X] []) β δ st (.ok .none (st.set l (.list (ys ++ [x])))) (gV W) := fun _ s inv => by
 obtain ⟨Vs, ep, a, b, d⟩ := inv.rel.obj l _ q
 have hb := b.length
 exact call_meets F.slot_list_append ⟨_, a, rfl⟩ F.entry_list_append (F.args_list_append_2 _ _) (list_append (β l) Vs.toArray ep X (by rw [sizeLine_eq]; simp; omega)) ⟨a, .mk (inv.listed q a (f := fun x => x.push X) (Ws := Vs ++ [X]) (by simp) (b.app (.cons hX .nil)) (by simp; omega)) rfl⟩
theorem lpop_ok (Wo : Words W) {l : Nat} {ys : List AV} {t : Tok} (q : st.heap l = some (.list ys)) : Ok W fx (call (.builtin "list.pop") [.ref (β l), .int 0 t] []) β δ st (match ys with | [] => raise0 W.g.indexError st | y :: r => .ok y (st.set l (.list r))) (gV W) := fun nb s inv => by
 obtain ⟨Vs, ep, a, b, d⟩ := inv.rel.obj l _ q
 have hb := b.length
 cases b with
 | nil =>
  refine xo0_2 (raise0_of nb) fun h0 e0 => ?_
  dsimp only
  rw [e0]
  exact call_meets F.slot_list_pop ⟨_, a, rfl⟩ F.entry_list_pop (F.args_list_pop_2 _ _) (AutoSeq1.list_pop_list_int_1 (β l) #[] ep 0 t (by decide) rfl) ⟨a, hd0 inv h0, fun h' tk e n => Raised.newExc inv n Wo.ie⟩
 | @cons y Y r Vs hy b =>
  exact call_meets F.slot_list_pop ⟨_, a, rfl⟩ F.entry_list_pop (F.args_list_pop_2 _ _) (MeetsSeq.list_pop_at (β l) (Y :: Vs).toArray ep 0 t 0 Y rfl (by unfold seqIndex?; simp) (by simp) (by rw [sizeLine_eq]; simp at *; omega))
   ⟨a, .mk (inv.listed q a (f := fun xs => xs.eraseIdxIfInBounds 0) (Ws := Vs) (by simp [Array.eraseIdxIfInBounds]) b (by simp at d; omega)) hy⟩
theorem dpop_ok (Wo : Words W) {l : Nat} {es : List (AV × AV)} {i : Int} {t : Tok} (q : st.heap l = some (.dict es)) : Ok W fx (call (.builtin "dict.pop") [.ref (β l), .int i t] []) β δ st (match dget? es (.int i) with | some x => .ok x (st.set l (.dict (ddel es (.int i)))) | none => raise0 W.g.keyError st) (gV W) := fun nb s inv => by
 obtain ⟨ds, a, b, d⟩ := inv.rel.obj l _ q
 have hb := b.length
 revert nb
 cases qx : dget? es (.int i) with
 | none =>
  intro nb
  refine xo0_2 (raise0_of nb) fun h0 e0 => ?_
  dsimp only
  rw [e0]
  exact call_meetsIn F.slot_dict_pop a.typeIs F.entry_dict_pop (F.args_dict_pop_2 _ _) (meets_dict_pop_missing (intKind W.prog W.w) (β l) (int_key i t) (not_sm Wo inv (inv.rel.some_lt _ _ q)) rfl) ⟨hd0 inv h0, ds, a, b.miss qx, fun h' e n => Raised.newExc inv n Wo.ke⟩
 | some x =>
  intro _
  refine xo1_2 (b.val qx) fun Y e1 e2 => ?_
  exact call_meetsIn F.slot_dict_pop a.typeIs F.entry_dict_pop (F.args_dict_pop_2 _ _) (meets_dict_pop_there (intKind W.prog W.w) (β l) (int_key i t) [] (.inl rfl) rfl) ⟨ds, Y, a, by rw [sizeLine_eq]; omega, e1, fun h' z1 z2 => .mk (inv.dicted q z2 z1 (b.del (dict_nodup a)) (Nat.le_trans (ddel_len ..) d)) e2⟩
theorem noKw_ok {T : List (Str × Value) → Sem Value} {ks : List (Nat × AV)} {Ks : List (Str × Value)} {r : R AV} (hk : KRs W β st.next ks Ks) (h : OkA W fx A (T []) β δ st r (gV W)) : OkA W fx A (T Ks) β δ st (noKw ks r) (gV W) := by
 cases ks with
 | nil => obtain ⟨Us, hU, rfl⟩ := hk; exact h
 | cons _ _ => exact .bad
theorem callMt_ok (B : Base W) (Wo : Words W) (K : Clss W) (CO : CallsOk W fx C) (rm : Roomy fx) {v : AV} {V : Value} {m : Nat} {mt : Mt} {st₀ : St} (hv : VR W β st.next v V) (hm : methodOf W.g v m st₀ = some mt)
  {xs : List AV} {Xs : List Value} {ks : List (Nat × AV)} {Ks : List (Str × Value)} (hx : VRs W β st.next xs Xs) (hk : KRs W β st.next ks Ks) {F : Value} (hF : MtVal W mt F) :
  Ok W fx (call F (V :: Xs) Ks) β δ st (callMt W.g C mt v xs ks st) (gV W) := by
 cases mt with
 | fn f =>
  cases hF
  exact fun nb s inv => wpAny_call (CO fx.A rfl rfl (Nat.le_succ _) (by omega) β δ st s f (v :: xs) (V :: Xs) ks Ks (.cons hv hx) hk nb inv)
 | append =>
  cases hF
  exact .toA (.asLoc (T := fun V => call _ (V :: Xs) Ks) hv fun l hl => noKw_ok (T := fun Ks => call _ (_ :: Xs) Ks) hk (.arg1 (T := fun Xs => call _ (_ :: Xs) []) hx fun x X hX => .atObj fun o q => .onList fun ys e => .ifp fun hz => append_ok (e ▸ q) hX hz))
 | lpop =>
  cases hF
  exact .toA (.asLoc (T := fun V => call _ (V :: Xs) Ks) hv fun l hl => noKw_ok (T := fun Ks => call _ (_ :: Xs) Ks) hk (.arg1 (T := fun Xs => call _ (_ :: Xs) []) hx fun x X hX => .asInt (T := fun X => call _ [_, X] []) hX fun i t => .ifp fun h0 => .atObj fun o q => .onList fun ys e => h0 ▸ lpop_ok Wo (e ▸ q)))
 | remove =>
  cases hF
  refine .toA (.asLoc (T := fun V => call _ (V :: Xs) Ks) hv fun l hl => noKw_ok (T := fun Ks => call _ (_ :: Xs) Ks) hk (.arg1 (T := fun Xs => call _ (_ :: Xs) []) hx fun x X hX => .atObj fun o q => .onList fun ys e nb s inv => ?_))
  subst e
  obtain ⟨Vs, ep, a, b, d⟩ := inv.rel.obj l _ q
  exact call_remove a (remove_loop B Wo K CO .in1 rm _ 0 β δ st s hX nb inv)
 | dpop =>
  cases hF
  exact .toA (.asLoc (T := fun V => call _ (V :: Xs) Ks) hv fun l hl => noKw_ok (T := fun Ks => call _ (_ :: Xs) Ks) hk (.arg1 (T := fun Xs => call _ (_ :: Xs) []) hx fun x X hX => .asInt (T := fun X => call _ [_, X] []) hX fun i t => .atObj fun o q => .onDict fun es e => dpop_ok Wo (e ▸ q)))
end
end Mine
end
section
open PySem PySem.W PyProof.Rows PySem.Calls PySem.SeqAt
namespace Mine
structure Funs (W : Wd) : Prop where
 gv : ∀ k f, W.g.gk k = .fn f → W.gv k = .ref (W.fa f)
 keep : ∀ k f, W.g.gk k = .fn f → keepIn W.K (.ref (W.fa f)) = true
 keepC : ∀ k, W.g.gk k = .cls → keepIn W.K (.ref (W.ca k)) = true
 keepM : ∀ c a f, W.g.me c a = .fn f → keepIn W.K (.ref (W.fa f)) = true
 init : W.nm W.g.init = ("__init__" : Str)
section
variable {W : Wd} {fx : Fx} {β δ β' δ' : Nat → Addr} {st st' : St} {s : Shared} {h' : Heap} {n : Nat} {C : Nat → List AV → St → R AV} {A : Around}
theorem KRs.mono {n' : Nat} {ks : List (Nat × AV)} {Ks : List (Str × Value)} (x : KRs W β n ks Ks) (hn : n ≤ n') (hs : ∀ l, l < n → β' l = β l) : KRs W β' n' ks Ks := let ⟨Vs, a, b⟩ := x; ⟨Vs, a.mono hn hs, b⟩
theorem under_make {D : Addr} {rest : List Value} {kw : List (Str × Value)} : Near fx (fx.A.under (.builtin "type.__call__" ⟨.ref D :: rest, kw⟩)) := by
 refine ⟨rfl, ?_, ?_, ?_⟩
 ·have e : Code.envs (.builtin "type.__call__" ⟨.ref D :: rest, kw⟩) = [] := rfl
  unfold Around.under
  rw [e]
  rfl
 ·show fx.A.depth + Code.weight _ ≤ _
  have : Code.weight (.builtin "type.__call__" ⟨.ref D :: rest, kw⟩) = 1 := by
   unfold Code.weight
   rfl
  omega
 ·show fx.A.units + Code.cUnits _ ≤ _
  have : Code.cUnits (.builtin "type.__call__" ⟨.ref D :: rest, kw⟩) = 1 := rfl
  omega
theorem make_ok (B : Base W) (Fu : Funs W) (K : Clss W) (CO : CallsOk W fx C) {c f : Nat} (hc : W.g.gk c = .cls) (hf : W.g.me c W.g.init = .fn f) {xs : List AV} {Xs : List Value} {ks : List (Nat × AV)} {Ks : List (Str × Value)} (hx : VRs W β st.next xs Xs) (hk : KRs W β st.next ks Ks) :
  Ok W fx (call (.ref (W.ca c)) Xs Ks) β δ st ((callFn W.g C f (.loc st.next :: xs) ks (st.new (.inst c []))).bnd fun r s' => if r = .none then .ok (.loc st.next) s' else .bad) (gV W) := fun nb s inv => by
 have D := K c (.inr hc)
 refine xo0_2 (D.meth _ _ hf) fun d1 d2 => ?_
 rw [Fu.init] at d1
 have X := K_in B inv
 have hty : typeIn W.K (.ref (W.fa f)) = some (.type "function") := beq_iff_eq.mp d2
 have k1 : ∀ b x, s.heap.get? b = some x → ((s.heap.push emptyDict).push (instObj (W.ca c) s.heap.objs.size)).get? b = some x := fun b x e => Heap.get?_push_of_some _ (Heap.get?_push_of_some _ e)
 have g1 : ((s.heap.push emptyDict).push (instObj (W.ca c) s.heap.objs.size)).get? (s.heap.objs.size + 1) = some (instObj (W.ca c) s.heap.objs.size) := by
  have := Heap.get?_push_size (s.heap.push emptyDict) (o := instObj (W.ca c) s.heap.objs.size) rfl
  rwa [Heap.size_push] at this
 have g2 : ((s.heap.push emptyDict).push (instObj (W.ca c) s.heap.objs.size)).get? s.heap.objs.size = some emptyDict := Heap.get?_push_of_some _ (Heap.get?_push_size _ rfl)
 obtain ⟨inv', go'⟩ := inv.alloc (o := .inst c []) k1 (a := s.heap.objs.size + 1) (d := s.heap.objs.size) (Heap.get?_none_of_le (Nat.le_succ _)) size_free ⟨_, g1⟩ ⟨_, g2⟩
  ⟨by rw [ext_eq, ext_eq]; exact g1, [], 0, by rw [ext_eq]; exact g2, .nil, Nat.zero_le _⟩
 have nb' : callFn W.g C f (.loc st.next :: xs) ks (st.new (.inst c [])) ≠ .bad := fun e => nb (by rw [e]; rfl)
 have N := under_make (fx := fx) (D := W.ca c) (rest := Xs) (kw := Ks)
 have co := CO _ N.handled N.frames N.depth (Nat.le_trans N.units (by omega)) _ _ (st.new (.inst c [])) { s with heap := (s.heap.push emptyDict).push (instObj (W.ca c) s.heap.objs.size) } f (.loc st.next :: xs) (.ref (s.heap.objs.size + 1) :: Xs) ks Ks
  (.cons ⟨Nat.lt_succ_self _, by rw [ext_eq]⟩ hx.up) (hk.mono (Nat.le_succ _) fun _ h => ext_lt h) nb' inv'
 refine wpAny_call ?_
 obtain ⟨hh, g, d, t, os⟩ := s
 refine make_core (makes_of X D.makes) (looks_findIn X d1) (fun self => bind_fn X self hty) (.inl rfl) (codeAny_mono co fun r s' hr => ?_)
 match r, hr with
 | .ok (.ret V), hr =>
  have hr : After W fx _ _ _ { heap := (hh.push emptyDict).push (instObj (W.ca c) hh.objs.size), gens := g, drawn := d, toks := t, os := os } _ (gV W) V s' := hr
  obtain ⟨v, st₁, β₁, δ₁, e1, e2, e3, e4, e5⟩ := hr
  rw [e1] at nb ⊢
  simp only [R.bnd_ok] at nb ⊢
  by_cases q : v = .none
  ·subst q
   cases e2
   refine ⟨rfl, ?_⟩
   rw [if_pos rfl]
   refine ⟨.loc st.next, st₁, β₁, δ₁, rfl, ⟨Nat.lt_of_lt_of_le (Nat.lt_succ_self _) e4.next, ?_⟩, e3, go'.trans e4, by rw [e5]⟩
   rw [(e4.same st.next (Nat.lt_succ_self _)).1, ext_eq]
  ·rw [if_neg q] at nb; exact (nb rfl).elim
 | .error e, hr =>
  have hr : Raised W fx _ _ _ { heap := (hh.push emptyDict).push (instObj (W.ca c) hh.objs.size), gens := g, drawn := d, toks := t, os := os } _ e s' := hr
  exact (Raised.then (Raised.trans (s := ⟨hh, g, d, t, os⟩) go' rfl hr) : Raised W fx β δ st ⟨hh, g, d, t, os⟩ _ e s')
theorem callV_ok (B : Base W) (Wo : Words W) (Fu : Funs W) (K : Clss W) (CO : CallsOk W fx C) {v : AV} {V : Value} (hv : VR W β n v V) {xs : List AV} {Xs : List Value} {ks : List (Nat × AV)} {Ks : List (Str × Value)}
  (hx : VRs W β st.next xs Xs) (hk : KRs W β st.next ks Ks) : Ok W fx (call V Xs Ks) β δ st (callV W.g C v xs ks st) (gV W) := by
 unfold callV
 cases v <;> try exact fun nb => (nb rfl).elim
 rename_i k
 cases hv
 dsimp only
 split
 ·rename_i f hf
  rw [Fu.gv _ _ hf]
  intro nb s inv
  exact wpAny_call (CO fx.A rfl rfl (Nat.le_succ _) (by omega) β δ st s f xs Xs ks Ks hx hk nb inv)
 ·rename_i hc
  split
  ·rename_i f hf
   rw [(K k (.inr hc)).gv]
   exact make_ok B Fu K CO hc hf hx hk
  ·exact .bad
 ·rename_i b hb
  rw [Wo.bi _ _ hb]
  split
  ·rename_i he
   refine xo1_2 hk fun Vs a e2_ => ?_; clear hk; obtain rfl := e2_
   have : ks = [] := by simpa using he
   subst this
   exact callBI_ok B Wo K hx
  ·exact .bad
 ·exact .bad
end
end Mine
end
section
open PySem PySem.W PyProof.Rows PySem.Calls PySem.SeqAt
namespace Mine
noncomputable def Ks.names : Ks → List Nat
 | .nil => []
 | .cons n _ _ r => n :: r.names
section
variable (W : Wd) (env : Env)
noncomputable def trees : Es → List (Bool × Sem Value)
 | .nil => []
 | .cons e r => (false, eval (e.dec W.nm W.sc) env) :: trees r
noncomputable def ktrees (p : Pos) : Ks → List (Option Str × Sem Value)
 | .nil => []
 | .cons n e _ r => (some (W.nm n), do let v ← eval (e.dec W.nm W.sc) env; standAt p; pure v) :: ktrees p r
theorem starEach_dec (as : Es) : starEach (as.dec W.nm W.sc) env = trees W env as := by
 match as with
 | .nil => rfl
 | .cons e r =>
  unfold Es.dec trees
  rw [← starEach_dec r]
  cases e <;> rfl
theorem backTo_trees (p : Pos) (as : Es) : backTo p (trees W env as) = trees W env as := by
 match as with
 | .nil => rfl
 | .cons e r =>
  have := backTo_trees p r
  unfold backTo at this ⊢
  unfold trees
  rw [List.map_cons, this]
  rfl
theorem backToKw_dec (p : Pos) (ks : Ks) : backToKw p (keywordEach (ks.dec W.nm W.sc) env) = ktrees W env p ks := by
 match ks with
 | .nil => rfl
 | .cons n e q r =>
  have := backToKw_dec p r
  unfold Ks.dec ktrees
  rw [← this]
  rfl
theorem trees_len (as : Es) : (trees W env as).length = as.len := by
 match as with
 | .nil => rfl
 | .cons e r => unfold trees Es.len; rw [List.length_cons, trees_len r]
theorem ktrees_len (p : Pos) (ks : Ks) : (ktrees W env p ks).length = ks.len := by
 match ks with
 | .nil => rfl
 | .cons n e q r => unfold ktrees Ks.len; rw [List.length_cons, ktrees_len p r]
theorem dec_len (as : Es) : (as.dec W.nm W.sc).length = as.len := by
 match as with
 | .nil => rfl
 | .cons e r => unfold Es.dec Es.len; rw [List.length_cons, dec_len r]
theorem kdec_len (ks : Ks) : (ks.dec W.nm W.sc).length = ks.len := by
 match ks with
 | .nil => rfl
 | .cons n e q r => unfold Ks.dec Ks.len; rw [List.length_cons, kdec_len r]
theorem trees_plain (as : Es) : (trees W env as).any (·.1) = false := by
 match as with
 | .nil => rfl
 | .cons e r => unfold trees; rw [List.any_cons, trees_plain r]; rfl
theorem trees_all (as : Es) : (trees W env as).all (!·.1) = true := by
 match as with
 | .nil => rfl
 | .cons e r => unfold trees; rw [List.all_cons, trees_all r]; rfl
theorem ktrees_plain (p : Pos) (ks : Ks) : (ktrees W env p ks).any (·.1.isNone) = false := by
 match ks with
 | .nil => rfl
 | .cons n e q r => unfold ktrees; rw [List.any_cons, ktrees_plain p r]; rfl
theorem ktrees_all (p : Pos) (ks : Ks) : (ktrees W env p ks).all (·.1.isSome) = true := by
 match ks with
 | .nil => rfl
 | .cons n e q r => unfold ktrees; rw [List.all_cons, ktrees_all p r]; rfl
theorem ktrees_names (p : Pos) (ks : Ks) : (ktrees W env p ks).filterMap (·.1) = ks.names.map W.nm := by
 match ks with
 | .nil => rfl
 | .cons n e q r => unfold ktrees Ks.names; rw [List.map_cons, ← ktrees_names p r]; rfl
end
section
variable {W : Wd} {fx : Fx} {β δ β' δ' : Nat → Addr} {st st' : St} {s : Shared} {h' : Heap} {n : Nat} {C : Nat → List AV → St → R AV} {A : Around}
abbrev gKs (W : Wd) (ks : Ks) : Good (List (Nat × AV)) (List Value) := fun β _ st v V => VRs W β st.next (v.map (·.2)) V ∧ v.map (·.1) = ks.names
theorem evalArgs_any {M : Model} {E : Value → Shared → Prop} {Q : Args → Shared → Prop} {F : Value} {env : Env} {p : Pos} {as : Es} {ks : Ks}
  (h : wpAny M A (spliced (trees W env as)) (fun vs s₁ => wpAny M A (evalAll ((ktrees W env p ks).map (·.2))) (fun us s₂ => Q ⟨vs, (ks.names.map W.nm).zip us⟩ s₂) E s₁) E s) : wpAny M A (evalArgs F true (trees W env as) (ktrees W env p ks)) Q E s := by
 cases as with
 | nil =>
  refine evalArgs_kw_nil (ktrees_all W env p ks) ?_
  rw [ktrees_names]
  have h : wpAny M A (pure [] : Sem (List Value)) _ E s := h
  have := h
  intro Γ q hΓ
  exact h Γ q hΓ Γ q hΓ
 | cons e r =>
  refine evalArgs_kw (ktrees_all W env p ks) ?_
  rw [ktrees_names]
  exact h
theorem Ok.seq {α υ τ : Type} {t : Sem τ} {r : R α} {good : Good α τ} {f : α → St → R υ} {Q : τ → Shared → Prop} (a : Ok W fx t β δ st r good) (nb : r.bnd f ≠ .bad) (inv : Inv W fx β δ st s.heap)
  (b : ∀ v st' β' δ' x s', r = .ok v st' → good β' δ' st' v x → Inv W fx β' δ' st' s'.heap → Go fx β δ st s.heap β' δ' st' s'.heap → s' = { s with heap := s'.heap, toks := s'.toks } → Q x s') :
  wpAny (model W.prog W.w) fx.A t Q (Raised W fx β δ st s (r.bnd f)) s :=
 wpAny_mono (a (fun q => nb (by rw [q]; rfl)) s inv) (fun x s' ⟨v, st', β', δ', e1, e2, e3, e4, e5⟩ => b v st' β' δ' x s' e1 e2 e3 e4 e5) fun e s' p => Raised.then p
theorem callWith_ok (B : Base W) {F : Value} {first : List Value} {p q : Pos} {as : Es} {ks : Ks} {k : List AV → List (Nat × AV) → St → R AV} (hk : ∀ M h, W.K.In h → ∃ k, (k = Keeper.frame ∨ k = Keeper.machine ∨ k = Keeper.boundFrame) ∧ Looks M h (keeperOf F) k)
  (hes : ∀ β δ st, Ok W fx (spliced (trees W fx.env as)) β δ st (evalEs W.g C as st) (gVs W)) (hks : ∀ β δ st, Ok W fx (evalAll ((ktrees W fx.env q ks).map (·.2))) β δ st (evalKs W.g C ks st) (gKs W ks))
  (hc : ∀ β' δ' st' xs Xs ys Ys, st.next ≤ st'.next → (∀ l, l < st.next → β' l = β l ∧ δ' l = δ l) → VRs W β' st'.next xs Xs → KRs W β' st'.next ys Ys → Ok W fx (call F (first ++ Xs) Ys) β' δ' st' (k xs ys st') (gV W)) :
  Ok W fx (callWith p F first (trees W fx.env as) (ktrees W fx.env q ks)) β δ st ((evalEs W.g C as st).bnd fun xs s => (evalKs W.g C ks s).bnd fun ys s => k xs ys s) (gV W) := by
 intro nb s inv
 refine callWith_of (P := fun h => W.K.In h) (by rw [trees_plain, ktrees_plain]; rfl) (fun h X => hk _ h X) (evalArgs_any ?_)
 refine (hes β δ st).seq nb inv fun xs st₁ β₁ δ₁ Xs s₁ e1 g1 i1 o1 q1 => ?_
 rw [e1, R.bnd_ok] at nb ⊢
 refine wpAny_mono ((hks β₁ δ₁ st₁).seq (Q := fun Us s₂ => W.K.In s₂.heap ∧ wpAny _ fx.A (call F (first ++ Xs) ((ks.names.map W.nm).zip Us)) (After W fx β₁ δ₁ st₁ s₁ ((evalKs W.g C ks st₁).bnd fun ys s => k xs ys s) (gV W)) (Raised W fx β₁ δ₁ st₁ s₁ ((evalKs W.g C ks st₁).bnd fun ys s => k xs ys s)) s₂) nb i1
  fun ys st₂ β₂ δ₂ Us s₂ e2 g2 i2 o2 q2 => ⟨K_in B i2, ?_⟩) (fun Us s₂ hh => ⟨hh.1, wpAny_mono hh.2 (fun V s' hv => After.trans o1 q1 hv) fun e s' he => Raised.trans o1 q1 he⟩) fun e s' he => Raised.trans o1 q1 he
 rw [e2, R.bnd_ok] at nb ⊢
 have o := o1.trans o2
 exact wpAny_mono (hc β₂ δ₂ st₂ xs Xs ys _ o.next o.same (g1.mono o2.next fun l hl => (o2.same l hl).1) ⟨Us, g2.1, by rw [← g2.2, List.map_map]; rfl⟩ nb s₂ i2)
  (fun V s' hv => After.trans o2 q2 hv) fun e s' he => Raised.trans o2 q2 he
theorem mt_keep (Fu : Funs W) {mt : Mt} {F : Value} {v : AV} {m : Nat} (hm : methodOf W.g v m st = some mt) (hF : MtVal W mt F) :
  ∀ M h, W.K.In h → ∃ k, (k = Keeper.frame ∨ k = Keeper.machine ∨ k = Keeper.boundFrame) ∧ Looks M h (keeperOf F) k := fun M h X => by
 cases mt with
 | fn f =>
  cases hF
  refine keeps_K ?_ h X
  unfold methodOf at hm
  split at hm
  ·split at hm
   ·split at hm
    ·rename_i hme _; cases hm; exact Fu.keepM _ _ _ hme
    ·cases hm
   ·repeat (split at hm <;> try cases hm)
   ·split at hm <;> cases hm
   ·cases hm
  ·cases hm
 | _ => cases hF; exact ⟨.machine, .inr (.inl rfl), .now⟩
theorem getM_ok (B : Base W) (Wo : Words W) (K : Clss W) {v : AV} {V : Value} {m : Nat} {mt : Mt} {pl : Sem Bool} {E : Value → Shared → Prop} {Q : Value × List Value → Shared → Prop} (inv : Inv W fx β δ st s.heap) (hv : VR W β st.next v V) (hm : methodOf W.g v m st = some mt)
  (h : ∀ F, MtVal W mt F → Q (F, [V]) s) :
  wpAny (model W.prog W.w) A (getMethod V (W.nm m) pl) Q E s := by
 unfold methodOf at hm
 split at hm
 ·rename_i l
  refine xo0_2 hv fun hl e1_ => ?_; clear hv; obtain rfl := e1_
  split at hm
  ·rename_i c as q
   split at hm
   ·rename_i f hme hg
    obtain rfl := Option.some.inj hm
    obtain ⟨z1, ds, ep, z2, z3, z4⟩ := inv.rel.obj l _ q
    have I : InstAt s.heap (β l) (instObj (W.ca c) (δ l)) (W.ca c) (some (dictOf ds ep)) := ⟨z1, rfl, rfl, z2⟩
    refine xo1_1 inv.fr fun mm F => ?_
    have D := K c (.inl ⟨m, by rw [hme]; nofun⟩)
    refine xo0_2 (D.meth _ _ hme) fun d1 d2 => ?_
    have := z3.find B m
    rw [hg] at this
    exact method_inst F B.inK I (D.get m) d1 d2 this (h _ rfl)
   ·exact nsE hm
  ·rename_i xs q
   obtain ⟨Vs, ep, a, b, d⟩ := inv.rel.obj l _ q
   have hT : s.TypeIs (.ref (β l)) "list" := ⟨_, a, rfl⟩
   have hd : ∀ b, Value.ref (β l) = .ref b → ∃ o, s.heap.get? b = some o ∧ o.dict = none := fun b e => by cases e; exact ⟨_, a, rfl⟩
   split at hm
   ·rename_i e; cases hm; rw [e, Wo.append]
    exact getMethod_builtin hT F.plainAttrs_list F.slot_list_append (by kernel_rfl) hd (h _ rfl)
   ·split at hm
    ·rename_i e; cases hm; rw [e, Wo.pop]
     exact getMethod_builtin hT F.plainAttrs_list F.slot_list_pop (by kernel_rfl) hd (h _ rfl)
    ·split at hm
     ·rename_i e; cases hm; rw [e, Wo.remove]
      exact getMethod_builtin hT F.plainAttrs_list F.slot_list_remove (by kernel_rfl) hd (h _ rfl)
     ·exact nsE hm
  ·rename_i es q
   obtain ⟨ds, a, b, d⟩ := inv.rel.obj l _ q
   split at hm
   ·rename_i e; cases hm; rw [e, Wo.pop]
    exact getMethod_builtin a.typeIs F.plainAttrs_dict F.slot_dict_pop (by kernel_rfl) a.mapOf.noDict (h _ rfl)
   ·exact nsE hm
  ·exact nsE hm
 ·exact nsE hm
end
end Mine
end
section
open PySem PySem.W PyProof.Rows PySem.Calls PySem.SeqAt
namespace Mine
section
variable {W : Wd} {fx : Fx} {β δ β' δ' : Nat → Addr} {st st' : St} {s : Shared} {h' : Heap} {n : Nat} {C : Nat → List AV → St → R AV} {A : Around}
theorem attrBase (B : Base W) {e : E} {a : PySem.Str} {env : Env} {t : Sem Value} : attributeBase (e.dec W.nm W.sc) a env t = t := by
 cases e with
 | call f as ks p =>
  cases f with
  | lv i q =>
   cases as with
   | nil => cases ks with
    | nil => show (if W.nm i != "super" || _ || _ || _ then t else _) = t; rw [B.sup i]; rfl
    | cons _ _ _ _ => rfl
   | cons _ _ => rfl
  | gv i q =>
   cases as with
   | nil => cases ks with
    | nil => show (if W.nm i != "super" || _ || _ || _ then t else _) = t; rw [B.sup i]; rfl
    | cons _ _ _ _ => rfl
   | cons _ _ => rfl
  | _ => rfl
 | _ => rfl
theorem noMarks {o : Cm} {e : E} : behindInMarks o.dec (e.dec W.nm W.sc) = false := by cases e <;> first | rfl | (cases o <;> rfl)
theorem noMarks2 {o o' : Cm} {e e' : E} : lastMarks [o.dec, o'.dec] [e.dec W.nm W.sc, e'.dec W.nm W.sc] = false := by
 show behindInMarks o'.dec (e'.dec W.nm W.sc) = false
 exact noMarks
theorem notSlice {e : E} {b : Bool} {V I : Value} : subscripted (e.dec W.nm W.sc) b V I = subscripted (.Constant .none 0 ⟨0, 0, 0, 0⟩) b V I := by cases b <;> cases e <;> rfl
structure Ctx2 (W : Wd) (fx : Fx) (C : Nat → List AV → St → R AV) : Prop where
 B : Base W
 Wo : Words W
 Fu : Funs W
 K : Clss W
 CO : CallsOk W fx C
 rm : Roomy fx
theorem Ok.keepGo {α : Type} {t : Sem Value} {r : R α} {good : Good α Value} {e : Expr} {o : Value} (a : Ok W fx t β δ st r good) : Ok W fx (t >>= fun q => letTemporaryGo e o q >>= fun _ => Pure.pure q) β δ st r good := fun nb s inv =>
 wpAny_bind (wpAny_mono (a nb s inv) (fun _ _ h => wpAny_bind (wpAny_letTemporaryGo (wpAny_pure h))) fun _ _ h => h)
theorem Ok.pureBind {τ ρ α : Type} {x : τ} {k : τ → Sem ρ} {r : R α} {good : Good α ρ} (a : Ok W fx (k x) β δ st r good) : Ok W fx (Pure.pure x >>= k) β δ st r good := fun nb s inv => wpAny_bind (wpAny_pure (a nb s inv))
theorem testOf {t : Sem Value} {r : R AV} {p : Pos} (Z : Ctx2 W fx C) (a : Ok W fx t β δ st r (gV W)) : Ok W fx (t >>= fun v => standAt p >>= fun _ => holding [v] (truthy v)) β δ st (r.bnd fun v s => truth v s) gB :=
 .bind a fun v st' β' δ' x _ g _ _ => .stand (.hold (truth_ok Z.Wo g))
theorem dct0_ok {p : Pos} {env : Env} : Ok W fx (eval (.Dict [] [] p) env) β δ st (Mine.alloc (.dict []) st) (gV W) := fun nb s inv => by
 rw [eval_Dict_empty]
 refine wpAny_bind (wpAny_standAt ?_)
 unfold newDict
 refine wpAny_bind (wpAny_alloc (wpAny_pure ?_))
 exact inv.pushed (o := .dict []) rfl ⟨[], by rw [ext_eq]; exact Heap.DictOf.new _, .nil, by simp⟩
theorem upto_ok {l : Nat} {xs : List AV} {k : Int} {t : Tok} {base : Expr} (up : Expr) (q q' : Pos) (inv : Inv W fx β δ st s.heap) (hl : st.heap l = some (.list xs) ∨ st.heap l = some (.ro xs)) (h0 : 0 ≤ k ∧ xs.length ≤ 1000) {E : Value → Shared → Prop} :
  wpAny (model W.prog W.w) fx.A (newFields "slice" [.none, .int k t, .none]) (fun i s' => wpAny (model W.prog W.w) fx.A (standAt q' >>= fun _ => subscriptTail base (.Slice none (some up) none q) (.ref (β l)) i) (After W fx β δ st s (Mine.alloc (.list (xs.take k.toNat)) st) (gV W)) E s') E s := by
 obtain ⟨Vs, a, b, d⟩ : ∃ Vs, s.heap.IsList (β l) (List.toArray Vs) ∧ VRs W β st.next xs Vs ∧ xs.length ≤ 100000 := by
  rcases hl with hl | hl
  ·obtain ⟨Vs, ep, a, b, c⟩ := inv.rel.obj l _ hl
   exact ⟨Vs, IsL.isList a, b, c⟩
  ·obtain ⟨Vs, ep, a, b, c⟩ := inv.rel.obj l _ hl
   exact ⟨Vs, ⟨_, a.2, a.1.1, _, a.1.2⟩, b, c⟩
 have hb := b.length
 unfold newFields
 refine wpAny_newObj_type (wpAny_bind (wpAny_standAt ?_)) (by size_fits)
 have k1 := push_keeps (h := s.heap) ({ cls := .type "slice", data := .fields [.none, .int k t, .none].toArray } : Obj)
 have inv1 := inv.grow k1
 have hL : ({ s with heap := s.heap.push ({ cls := .type "slice", data := .fields [.none, .int k t, .none].toArray } : Obj) } : Shared).heap.IsList (β l) Vs.toArray := let ⟨o, a, r⟩ := a; ⟨o, k1 _ _ a, r⟩
 refine tail_any (ops := [.ref s.heap.objs.size, .ref (β l)]) hL.typeIs slot_list_getitem.lookup (wpAny_getItem_list_slice (lo := none) (hi := some k) (st := none) hL (Heap.IsSliceOf.new ..) .none (.int k t) .none (by simp) ?_ (by rw [sizeLine_eq]; simp; omega)) rfl
 refine xo1_1 (Int.eq_ofNat_of_zero_le h0.1) fun n e1_ => ?_; obtain rfl := e1_
 rw [slicePick_upto']
 obtain ⟨v, st', β', δ', e1, e2, e3, e4, e5⟩ := inv1.newList (s := { s with heap := s.heap.push ({ cls := .type "slice", data := .fields [.none, .int (n : Int) t, .none].toArray } : Obj) }) (b.take n) (by simp; omega) (k := s.toks)
 exact ⟨v, st', β', δ', e1, e2, e3, (Go.grow k1).trans e4, by rw [e5]⟩
theorem not_ok {t : Sem Value} {r : R AV} {p : Pos} (Z : Ctx2 W fx C) (a : Ok W fx t β δ st r (gV W)) : Ok W fx (t >>= fun v => standAt p >>= fun _ => holding [v] (unaryOp .Not v)) β δ st (r.bnd fun a s => (truth a s).bnd fun b s => .ok (.bool (!b)) s) (gV W) :=
 .bind a fun v st' β' δ' x e g _ _ => .stand (.hold (show Ok W fx (holding [x] (truthy x >>= fun b => Pure.pure (Value.bool (!b)))) _ _ _ _ _ from .hold (Ok.bnd1 (good' := gV W) (k' := fun b => Value.bool (!b)) (truth_ok Z.Wo g) fun b st' β' δ' x e g => ⟨.bool (!b), rfl, by cases g; rfl⟩)))
theorem neg_ok {t : Sem Value} {r : R AV} {p : Pos} (a : Ok W fx t β δ st r (gV W)) : Ok W fx (t >>= fun v => standAt p >>= fun _ => holding [v] (unaryOp .USub v)) β δ st (r.bnd fun a s => asInt a fun x => .ok (.int (-x)) s) (gV W) :=
 .bind a fun v st' β' δ' x e g _ _ => .stand (.hold (.toA (.asInt (T := fun V => unaryOp .USub V) g fun i t _ s inv => P.neg_int (.tok inv ⟨_, rfl⟩))))
theorem bnd_bool (r : R Bool) : ((r.bnd fun x s => (.ok (.bool x) s : R AV)).bnd fun v s => truth v s) = r := by cases r <;> rfl
theorem R.bnd_bnd {α υ ρ : Type} (r : R α) (f : α → St → R υ) (g : υ → St → R ρ) : (r.bnd f).bnd g = r.bnd fun v s => (f v s).bnd g := by cases r <;> rfl
theorem Ok.assoc {α υ ρ τ : Type} {t : Sem τ} {r : R α} {f : α → St → R υ} {g : υ → St → R ρ} {good : Good ρ τ} (h : Ok W fx t β δ st (r.bnd fun v s => (f v s).bnd g) good) : Ok W fx t β δ st ((r.bnd f).bnd g) good := by rw [R.bnd_bnd]; exact h
theorem Ok.ite {α τ : Type} {t t' : Sem τ} {r r' : R α} {b : Bool} {good : Good α τ} (h : b = true → Ok W fx t β δ st r good) (h' : b = false → Ok W fx t' β δ st r' good) : Ok W fx (if b = true then t else t') β δ st (if b = true then r else r') good := by
 cases b
 ·exact h' rfl
 ·exact h rfl
theorem bool_val {t : Sem Value} {r : R Bool} (a : Ok W fx t β δ st r gBv) : Ok W fx t β δ st (r.bnd fun x s => .ok (.bool x) s) (gV W) := fun nb s inv =>
 wpAny_mono (a (fun q => nb (by rw [q]; rfl)) s inv) (fun _ _ h => After.then h fun v st' β' δ' e g => ⟨_, rfl, g⟩) fun _ _ h => h.then
theorem bool_test {t : Sem Value} {r : R Bool} {vs : Value → List Value} (a : Ok W fx t β δ st r gBv) : Ok W fx (t >>= fun c => holding (vs c) (truthy c)) β δ st r gB := by
 intro nb s inv
 refine wpAny_bind (wpAny_mono (a nb s inv) (fun x s' h => wpAny_holding ?_) fun _ _ h => h)
 obtain ⟨v, st', β', δ', e1, e2, e3⟩ := h
 subst e2
 exact wpAny_truthy_bool ⟨v, st', β', δ', e1, rfl, e3⟩
theorem canCall_any {n n' : Nat} {v : AV} {V : Value} (hc : canCall W.g v = true) (g : VR W β n v V) : VR W β' n' v V := by
 cases v <;> first | exact g | exact nomatch hc
theorem canCall_keep (Z : Ctx2 W fx C) {n : Nat} {v : AV} {V : Value} (hc : canCall W.g v = true) (g : VR W β n v V) : ∀ M h, W.K.In h → ∃ k, (k = Keeper.frame ∨ k = Keeper.machine ∨ k = Keeper.boundFrame) ∧ Looks M h (keeperOf V) k := fun M h X => by
 unfold canCall at hc
 split at hc
 ·rename_i k
  cases g
  split at hc
  ·cases hc
  ·rename_i hk
   cases q : W.g.gk k with
   | fn f => rw [Z.Fu.gv _ _ q]; exact keeps_K (Z.Fu.keep _ _ q) h X
   | cls => rw [(Z.K k (.inr q)).gv]; exact keeps_K (Z.Fu.keepC _ q) h X
   | bi b => rw [Z.Wo.bi _ _ q]; cases b <;> exact ⟨.machine, .inr (.inl rfl), .now⟩
   | other => exact (hk q).elim
 ·exact ftE hc
theorem cmp2_rest {o' : Cm} {R' : Sem Value} {r2 : St → R AV} {p : Pos} (Z : Ctx2 W fx C) {a b : AV} {V U : Value} {o : Cm} (ga : VR W β st.next a V) (gb : VR W β st.next b U)
  (hr : ∀ β δ st, Ok W fx R' β δ st (r2 st) (gV W)) : Ok W fx (standAt p >>= fun _ => holding [V, U] (compareOp o.dec V U) >>= fun c => PySem.release [V, U] [c] >>= fun _ => holding [c, U] (truthy c) >>= fun t => if t = true then compareChain p U [o'.dec] [R'] else Pure.pure c) β δ st
   ((cmpv W.g C o a b st).bnd fun x s => if x then (r2 s).bnd fun c s => (cmpv W.g C o' b c s).bnd fun x s => .ok (.bool x) s else .ok (.bool false) s) (gV W) := by
 refine .stand (.bind (.hold (cmpv_ok Z.B Z.Wo Z.K Z.CO Z.rm ga gb)) fun x st₁ β₁ δ₁ c _ g1 n1 s1 => .release ?_)
 cases g1
 refine .step x (fun s E Q _ h => wpAny_holding (wpAny_truthy_bool h)) (.ite (fun _ => ?_) fun e => .pure (e ▸ rfl))
 refine .bind (k := fun rv => standAt p >>= fun _ => operate [U, rv] (compareOp o'.dec U rv)) (.hold (hr β₁ δ₁ st₁)) fun c st₂ β₂ δ₂ D _ g2 n2 s2 => .stand (.operate ?_)
 exact bool_val (cmpv_ok Z.B Z.Wo Z.K Z.CO Z.rm (gb.mono (Nat.le_trans n1 n2) fun l hl => ((s2 l (Nat.lt_of_lt_of_le hl n1)).1.trans (s1 l hl).1)) g2)
theorem cmp2_test {o' : Cm} {R' : Sem Value} {r2 : St → R AV} {p : Pos} (Z : Ctx2 W fx C) {a b : AV} {V U : Value} {o : Cm} (ga : VR W β st.next a V) (gb : VR W β st.next b U)
  (hr : ∀ β δ st, Ok W fx R' β δ st (r2 st) (gV W)) : Ok W fx (standAt p >>= fun _ => holding [V, U] (compareOp o.dec V U) >>= fun c => PySem.release [V, U] [c] >>= fun _ => holding [c, U] (truthy c) >>= fun t => if t = true then testChain p U [o'.dec] [R'] else Pure.pure false) β δ st
   ((cmpv W.g C o a b st).bnd fun x s => (if x then (r2 s).bnd fun c s => (cmpv W.g C o' b c s).bnd fun x s => .ok (.bool x) s else (.ok (.bool false) s : R AV)).bnd fun v s => truth v s) gB := by
 refine .stand (.bind (.hold (cmpv_ok Z.B Z.Wo Z.K Z.CO Z.rm ga gb)) fun x st₁ β₁ δ₁ c _ g1 n1 s1 => .release ?_)
 cases g1
 refine .step x (fun s E Q _ h => wpAny_holding (wpAny_truthy_bool h)) ?_
 cases x with
 | true =>
  refine .assoc (.bind (k := fun rv => standAt p >>= fun _ => operate [U, rv] (compareOp o'.dec U rv) >>= fun c => holding [c] (truthy c)) (.hold (hr β₁ δ₁ st₁)) fun c st₂ β₂ δ₂ D _ g2 n2 s2 => .stand ?_)
  rw [bnd_bool]
  exact bool_test (vs := fun c => [c]) (.operate (cmpv_ok Z.B Z.Wo Z.K Z.CO Z.rm (gb.mono (Nat.le_trans n1 n2) fun l hl => ((s2 l (Nat.lt_of_lt_of_le hl n1)).1.trans (s1 l hl).1)) g2))
 | false => exact .pure rfl
theorem dict_adopt {st₂ : St} {β₂ δ₂ : Nat → Addr} {s₂ : Shared} {b : AV} {y : Value} {i : Int} {t : Tok} {m : Nat} (inv : Inv W fx β δ st s.heap) (o : Go fx β δ st (s.heap.push emptyDict) β₂ δ₂ st₂ s₂.heap) (i2 : Inv W fx β₂ δ₂ st₂ s₂.heap) (g2 : VR W β₂ st₂.next b y)
  (qq : s₂ = { s with heap := s₂.heap, toks := s₂.toks }) : ∃ kvs, Carries (intKind W.prog W.w) [(.int i t, y)] kvs ∧ s₂.heap.DictOf (intKind W.prog W.w) s.heap.objs.size [] ∧
   ∀ h', h'.DictOf (intKind W.prog W.w) s.heap.objs.size (merged [] kvs) → Heap.SameBut s.heap.objs.size s₂.heap h' → After W fx β δ st s (Mine.alloc (.dict [(.int i, b)]) st₂) (gV W) (.ref s.heap.objs.size) { s₂ with heap := h', toks := s₂.toks + m } := by
 have N := inv.newAt (a := s.heap.objs.size) size_free
 have d0 : (s.heap.push emptyDict).get? s.heap.objs.size = some emptyDict := Heap.get?_push_size _ rfl
 have d2 : s₂.heap.get? s.heap.objs.size = some emptyDict := o.keep _ _ d0 N.own N.frs
 have no2 : ¬ own β₂ δ₂ st₂.next s.heap.objs.size := fun q => N.own (o.own_old (by rw [d0]; nofun) q)
 refine ⟨[(i, y)], ⟨by simp [intKind, Value.isInt], rfl, trivial⟩, ⟨emptyDict, #[], 0, d2, ⟨rfl, rfl, rfl⟩, rfl, fun e he => by simp at he, .nil, by simp⟩, fun h' hd hs => ?_⟩
 have sm : ∀ c x, c ≠ s.heap.objs.size → s₂.heap.get? c = some x → h'.get? c = some x := fun c x hc e => (hs.2 c hc).trans e
 have dl : ∃ x, h'.get? s.heap.objs.size = some x := let ⟨x, _, _, e, _⟩ := hd; ⟨x, e⟩
 have lv : ∀ c x, s₂.heap.get? c = some x → ∃ x', h'.get? c = some x' := fun c x e => by
  by_cases q : c = s.heap.objs.size
  ·rw [q]; exact dl
  ·exact ⟨x, sm c x q e⟩
 have T : Tch fx (Free fx β₂ δ₂ st₂.next) s.heap s₂.heap h' := ⟨fun c x e nf hc => by
   by_cases q : c = s.heap.objs.size
   ·subst q
    rcases hc with hc | hc
    ·exact (hc size_free).elim
    ·exact (hc ⟨no2, N.frs⟩).elim
   ·exact sm c x q e, lv, fun c hc x e => ⟨x.slots, sm c x (fun q => N.frs (q ▸ hc)) e⟩⟩
 have i3 := i2.touch T inv.stays fun q e he => inv.hlow (o.hd.symm.trans q) e he
 have N2 : NewAt W fx β₂ δ₂ st₂ s.heap.objs.size := ⟨no2, N.frs, N.base, fun e q he => N.held e (o.hd.symm.trans q) he⟩
 have hd' : h'.DictOf (intKind W.prog W.w) s.heap.objs.size [(i, y)] := hd
 have i4 := i3.adopt (o := .dict [(.int i, b)]) (fun _ _ e => e) N2 N2 dl dl ⟨[(i, y)], by rw [ext_eq]; exact hd', .cons g2.up .nil, by simp⟩
 have pk := push_keeps (h := s.heap) emptyDict
 have np : ∀ c, (s.heap.push emptyDict).get? c = none → s.heap.get? c = none := fun c e => by
  cases q : s.heap.get? c with
  | none => rfl
  | some x => rw [pk c x q] at e; exact snE e
 refine ⟨.loc st₂.next, _, _, _, rfl, ⟨Nat.lt_succ_self _, by rw [ext_eq]⟩, i4, ⟨Nat.le_trans o.next (Nat.le_succ _), fun l hl => ?_, fun l h1 h2 => ?_, fun c x e no nf => ?_, fun c hc hL x e => ?_, o.hd, fun c x e => ?_⟩, by rw [qq]⟩
 ·have := Nat.lt_of_lt_of_le hl o.next
  rw [ext_lt this, ext_lt this]; exact o.same l hl
 ·by_cases q : l = st₂.next
  ·rw [q, ext_eq, ext_eq]; exact ⟨size_free, size_free⟩
  ·have hl : l < st₂.next := Nat.lt_of_le_of_ne (Nat.le_of_lt_succ h2) q
   rw [ext_lt hl, ext_lt hl]
   have := o.new l h1 hl
   exact ⟨np _ this.1, np _ this.2⟩
 ·exact sm c x (fun q => by rw [q, size_free] at e; cases e) (o.keep c x (pk c x e) no nf)
 ·refine xo1_1 (o.frames c hc hL x (pk c x e)) fun sl e1 => ?_
  exact ⟨sl, sm c _ (fun q => N.frs (q ▸ hc)) e1⟩
 ·refine xo1_1 (o.live c x (pk c x e)) fun x' e1 => ?_
  exact lv c x' e1
structure PE (W : Wd) (fx : Fx) (C : Nat → List AV → St → R AV) (e : E) : Prop where
 v : ∀ β δ st, Ok W fx (eval (e.dec W.nm W.sc) fx.env) β δ st (evalE W.g C e st) (gV W)
 t : ∀ β δ st, Ok W fx (isTrue (e.dec W.nm W.sc) fx.env (eval (e.dec W.nm W.sc) fx.env)) β δ st (evalT W.g C e st) gB
structure PEs (W : Wd) (fx : Fx) (C : Nat → List AV → St → R AV) (es : Es) : Prop where
 v : ∀ β δ st, Ok W fx (spliced (trees W fx.env es)) β δ st (evalEs W.g C es st) (gVs W)
 b : ∀ op p β δ st, Ok W fx (boolOp p (if op then .And else .Or) (evalEach (es.dec W.nm W.sc) fx.env)) β δ st (evalB W.g C op es st) (gV W)
 t : ∀ op β δ st, Ok W fx (allTrue (if op then .And else .Or) (es.dec W.nm W.sc) fx.env) β δ st ((evalB W.g C op es st).bnd fun v s => truth v s) gB
abbrev PKs (W : Wd) (fx : Fx) (C : Nat → List AV → St → R AV) (ks : Ks) : Prop := ∀ p β δ st, Ok W fx (evalAll ((ktrees W fx.env p ks).map (·.2))) β δ st (evalKs W.g C ks st) (gKs W ks)
abbrev PEw (W : Wd) (fx : Fx) (C : Nat → List AV → St → R AV) (e : E) : Prop := e.wf W.gl fx.kd = true → PE W fx C e
abbrev PEsw (W : Wd) (fx : Fx) (C : Nat → List AV → St → R AV) (es : Es) : Prop := es.wf W.gl fx.kd = true → PEs W fx C es
abbrev PKsw (W : Wd) (fx : Fx) (C : Nat → List AV → St → R AV) (ks : Ks) : Prop := ks.wf W.gl fx.kd = true → PKs W fx C ks
variable (Z : Ctx2 W fx C)
include Z
theorem pe_lv (i : Nat) (p : Pos) : PEw W fx C (.lv i p) := fun hw => ⟨fun _ _ _ => lv_ok Z.B hw C, fun _ _ _ => testOf (p := p) Z (lv_ok Z.B hw C)⟩
theorem pe_gv (i : Nat) (p : Pos) : PEw W fx C (.gv i p) := fun hw => ⟨fun _ _ _ => gv_ok Z.B hw C, fun _ _ _ => testOf (p := p) Z (gv_ok Z.B hw C)⟩
theorem pe_cst (c : KC) (k : Nat) (p : Pos) : PEw W fx C (.cst c k p) := fun _ => ⟨fun _ _ _ => cst_ok C, fun _ _ _ => testOf (p := p) Z (cst_ok C)⟩
theorem pe_attr (e : E) (a : Nat) (p : Pos) (ih : PEw W fx C e) : PEw W fx C (.attr e a p) := fun hw => by
 have key : ∀ β δ st, Ok W fx (eval ((E.attr e a p).dec W.nm W.sc) fx.env) β δ st (evalE W.g C (.attr e a p) st) (gV W) := fun β δ st => by
  show Ok W fx (eval (.Attribute (e.dec W.nm W.sc) (W.nm a) p) fx.env) β δ st ((evalE W.g C e st).bnd fun v s => getA W.g C v a s) (gV W)
  rw [arm_eval_Attribute, attrBase Z.B]
  exact .bind ((ih hw).v β δ st) fun v st' β' δ' x _ g _ _ => .stand (.keepGo (.hold (getA_ok Z.B Z.K Z.CO g)))
 exact ⟨key, fun β δ st => testOf (p := p) Z (key β δ st)⟩
theorem pe_sub (e i : E) (p : Pos) (ih : PEw W fx C e) (ih2 : PEw W fx C i) : PEw W fx C (.sub e i p) := fun hw => by
 refine xo0_2 (Bool.and_eq_true_iff.mp hw) fun h1 h2 => ?_
 have key : ∀ β δ st, Ok W fx (eval ((E.sub e i p).dec W.nm W.sc) fx.env) β δ st (evalE W.g C (.sub e i p) st) (gV W) := fun β δ st => by
  show Ok W fx (eval (.Subscript (e.dec W.nm W.sc) (i.dec W.nm W.sc) p) fx.env) β δ st ((evalE W.g C e st).bnd fun v s => (evalE W.g C i s).bnd fun w s => getI W.g v w s) (gV W)
  rw [arm_eval_Subscript]
  exact .bind ((ih h1).v β δ st) fun v st' β' δ' x _ g _ _ => .bind (.hold ((ih2 h2).v β' δ' st')) fun w st₂ β₂ δ₂ y _ g2 n2 s2 => .stand (getI_ok Z.Wo (g.mono n2 fun l hl => (s2 l hl).1) g2 fun b => notSlice)
 exact ⟨key, fun β δ st => testOf (p := p) Z (key β δ st)⟩
omit Z in
theorem takeR_inv {v w : AV} {s : St} (nb : takeR v w s ≠ .bad) : ∃ l k xs, v = .loc l ∧ w = .int k ∧ (s.heap l = some (.list xs) ∨ s.heap l = some (.ro xs)) ∧ (0 ≤ k ∧ xs.length ≤ 1000) ∧ takeR v w s = Mine.alloc (.list (xs.take k.toNat)) s := by
 cases v with
 | loc l =>
  cases w with
  | int k =>
   revert nb
   show atObj s l _ ≠ _ → ∃ _ _ _, _ ∧ _ ∧ _ ∧ _ ∧ atObj s l _ = _
   unfold atObj
   have key : ∀ xs, takeL xs k s ≠ .bad → (0 ≤ k ∧ xs.length ≤ 1000) ∧ takeL xs k s = Mine.alloc (.list (xs.take k.toNat)) s := fun xs nb => by
    unfold takeL at nb ⊢
    by_cases h : 0 ≤ k ∧ xs.length ≤ 1000
    ·exact ⟨h, if_pos h⟩
    ·rw [if_neg h] at nb; exact (nb rfl).elim
   cases q : s.heap l with
   | none => exact fun nb => (nb rfl).elim
   | some o =>
    cases o with
    | list xs => exact fun nb => ⟨l, k, xs, rfl, rfl, .inl q, key xs nb⟩
    | ro xs => exact fun nb => ⟨l, k, xs, rfl, rfl, .inr q, key xs nb⟩
    | _ => exact fun nb => (nb rfl).elim
  | _ => exact (nb rfl).elim
 | _ => exact (nb rfl).elim
theorem pe_upto (e n : E) (p q : Pos) (ih : PEw W fx C e) (ih2 : PEw W fx C n) : PEw W fx C (.upto e n p q) := fun hw => by
 refine xo0_2 (Bool.and_eq_true_iff.mp hw) fun h1 h2 => ?_
 have key : ∀ β δ st, Ok W fx (eval ((E.upto e n p q).dec W.nm W.sc) fx.env) β δ st (evalE W.g C (.upto e n p q) st) (gV W) := fun β δ st => by
  show Ok W fx (eval (.Subscript (e.dec W.nm W.sc) (.Slice none (some (n.dec W.nm W.sc)) none q) p) fx.env) β δ st ((evalE W.g C e st).bnd fun v s => (evalE W.g C n s).bnd fun w s => takeR v w s) (gV W)
  rw [arm_eval_Subscript]
  refine .bind ((ih h1).v β δ st) fun v st' β' δ' x _ g _ _ => ?_
  intro nb s inv
  refine wpAny_bind (wpAny_holding ?_)
  rw [arm_eval_Slice]
  refine wpAny_bind (wpAny_pure (wpAny_bind (wpAny_holding ?_)))
  refine ((ih2 h2).v β' δ' st').seq nb inv fun w st₂ β₂ δ₂ y s₂ e2 g2 i2 o2 q2 => ?_
  rw [e2, R.bnd_ok] at nb
  refine wpAny_bind (wpAny_holding (wpAny_pure ?_))
  rw [e2, R.bnd_ok]
  have g1 := g.mono o2.next fun l hl => (o2.same l hl).1
  refine xo3_5 (takeR_inv nb) fun l k xs e3_ e4_ qq h0 ee => ?_; obtain rfl := e3_; obtain rfl := e4_
  rw [ee]
  refine xo0_2 g1 fun hl e1_ => ?_; clear g1; obtain rfl := e1_
  refine xo1_1 g2 fun t e1_ => ?_; clear g2; obtain rfl := e1_
  exact wpAny_mono (upto_ok (base := e.dec W.nm W.sc) (n.dec W.nm W.sc) q p i2 qq h0 (E := Raised W fx β' δ' st' s (Mine.alloc (.list (xs.take k.toNat)) st₂))) (fun i s' h => wpAny_mono h (fun V s'' hv => After.trans o2 q2 hv) fun _ _ h => h) fun _ _ h => h
 exact ⟨key, fun β δ st => testOf (p := p) Z (key β δ st)⟩
theorem pe_bin (o : Op) (l r : E) (p : Pos) (ih : PEw W fx C l) (ih2 : PEw W fx C r) : PEw W fx C (.bin o l r p) := fun hw => by
 refine xo0_2 (Bool.and_eq_true_iff.mp hw) fun h1 h2 => ?_
 have key : ∀ β δ st, Ok W fx (eval ((E.bin o l r p).dec W.nm W.sc) fx.env) β δ st (evalE W.g C (.bin o l r p) st) (gV W) := fun β δ st => by
  show Ok W fx (eval (.BinOp (l.dec W.nm W.sc) o.dec (r.dec W.nm W.sc) p) fx.env) β δ st ((evalE W.g C l st).bnd fun a s => (evalE W.g C r s).bnd fun b s => bino W.g o a b s) (gV W)
  rw [arm_eval_BinOp]
  exact .bind ((ih h1).v β δ st) fun v st' β' δ' x _ g _ _ => .bind (.hold ((ih2 h2).v β' δ' st')) fun w st₂ β₂ δ₂ y _ g2 n2 s2 => .stand (.operate (bino_ok Z.Wo (g.mono n2 fun l hl => (s2 l hl).1) g2))
 exact ⟨key, fun β δ st => testOf (p := p) Z (key β δ st)⟩
theorem pe_neg (e : E) (p : Pos) (ih : PEw W fx C e) : PEw W fx C (.neg e p) := fun hw => by
 have key : ∀ β δ st, Ok W fx (eval ((E.neg e p).dec W.nm W.sc) fx.env) β δ st (evalE W.g C (.neg e p) st) (gV W) := fun β δ st => by
  show Ok W fx (eval (.UnaryOp .USub (e.dec W.nm W.sc) p) fx.env) β δ st _ (gV W)
  rw [arm_eval_UnaryOp]
  exact neg_ok ((ih hw).v β δ st)
 exact ⟨key, fun β δ st => testOf (p := p) Z (key β δ st)⟩
theorem pe_not (e : E) (p : Pos) (ih : PEw W fx C e) : PEw W fx C (.not e p) := fun hw => by
 have ev : ∀ st, evalE W.g C (.not e p) st = (evalE W.g C e st).bnd fun a s => (truth a s).bnd fun b s => .ok (.bool (!b)) s := fun _ => rfl
 refine ⟨fun β δ st => ?_, fun β δ st => ?_⟩
 ·show Ok W fx (eval (.UnaryOp .Not (e.dec W.nm W.sc) p) fx.env) β δ st _ (gV W)
  rw [arm_eval_UnaryOp]
  exact not_ok Z ((ih hw).v β δ st)
 ·have := Ok.bnd1 (good' := gB) (k' := fun b => !b) (k := fun b s => (.ok (!b) s : R Bool)) ((ih hw).t β δ st) fun b st' β' δ' x e g => ⟨!b, rfl, by cases g; rfl⟩
  have e1 : evalT W.g C (.not e p) st = (evalT W.g C e st).bnd fun b s => (.ok (!b) s : R Bool) := by
   unfold evalT
   rw [ev, R.bnd_bnd, R.bnd_bnd]
   refine congrArg _ (funext fun v => funext fun s => ?_)
   cases truth v s <;> rfl
  rw [e1]
  exact this
omit Z in
theorem pe_band (es : Es) (p : Pos) (ih : PEsw W fx C es) : PEw W fx C (.band es p) := fun hw => by
 refine ⟨fun β δ st => ?_, fun β δ st => (ih hw).t true β δ st⟩
 show Ok W fx (eval (.BoolOp .And (es.dec W.nm W.sc) p) fx.env) β δ st (evalB W.g C true es st) (gV W)
 rw [arm_eval_BoolOp]
 exact (ih hw).b true p β δ st
omit Z in
theorem pe_bor (es : Es) (p : Pos) (ih : PEsw W fx C es) : PEw W fx C (.bor es p) := fun hw => by
 refine ⟨fun β δ st => ?_, fun β δ st => (ih hw).t false β δ st⟩
 show Ok W fx (eval (.BoolOp .Or (es.dec W.nm W.sc) p) fx.env) β δ st (evalB W.g C false es st) (gV W)
 rw [arm_eval_BoolOp]
 exact (ih hw).b false p β δ st
theorem pe_cmp (l : E) (o : Cm) (r : E) (p : Pos) (ih : PEw W fx C l) (ih2 : PEw W fx C r) : PEw W fx C (.cmp l o r p) := fun hw => by
 refine xo0_2 (Bool.and_eq_true_iff.mp hw) fun h1 h2 => ?_
 refine ⟨fun β δ st => ?_, fun β δ st => ?_⟩
 ·show Ok W fx (eval (.Compare (l.dec W.nm W.sc) [o.dec] [r.dec W.nm W.sc] p) fx.env) β δ st ((evalE W.g C l st).bnd fun a s => (evalE W.g C r s).bnd fun b s => (cmpv W.g C o a b s).bnd fun x s => .ok (.bool x) s) (gV W)
  rw [eval_Compare1, markedBehindIn_of_false noMarks]
  exact .bind ((ih h1).v β δ st) fun v st' β' δ' x _ g _ _ => .bind (.hold ((ih2 h2).v β' δ' st')) fun w st₂ β₂ δ₂ y _ g2 n2 s2 => .stand (.operate (bool_val (cmpv_ok Z.B Z.Wo Z.K Z.CO Z.rm (g.mono n2 fun l hl => (s2 l hl).1) g2)))
 ·show Ok W fx (isTrue (.Compare (l.dec W.nm W.sc) [o.dec] [r.dec W.nm W.sc] p) fx.env _) β δ st (((evalE W.g C l st).bnd fun a s => (evalE W.g C r s).bnd fun b s => (cmpv W.g C o a b s).bnd fun x s => .ok (.bool x) s).bnd fun v s => truth v s) gB
  rw [isTrue_Compare1, markedBehindIn_of_false noMarks]
  refine .assoc (.bind ((ih h1).v β δ st) fun v st' β' δ' x _ g _ _ => .assoc (.bind (.hold ((ih2 h2).v β' δ' st')) fun w st₂ β₂ δ₂ y _ g2 n2 s2 => .stand ?_))
  rw [bnd_bool]
  exact bool_test (vs := fun c => [c]) (.operate (cmpv_ok Z.B Z.Wo Z.K Z.CO Z.rm (g.mono n2 fun l hl => (s2 l hl).1) g2))
theorem pe_cmp2 (l : E) (o : Cm) (m : E) (o' : Cm) (r : E) (p : Pos) (ih : PEw W fx C l) (ih2 : PEw W fx C m) (ih3 : PEw W fx C r) : PEw W fx C (.cmp2 l o m o' r p) := fun hw => by
 refine xo0_2 (Bool.and_eq_true_iff.mp hw) fun h12 h3 => ?_
 refine xo0_2 (Bool.and_eq_true_iff.mp h12) fun h1 h2 => ?_
 refine ⟨fun β δ st => ?_, fun β δ st => ?_⟩
 ·show Ok W fx (eval (.Compare (l.dec W.nm W.sc) [o.dec, o'.dec] [m.dec W.nm W.sc, r.dec W.nm W.sc] p) fx.env) β δ st ((evalE W.g C l st).bnd fun a s => (evalE W.g C m s).bnd fun b s => (cmpv W.g C o a b s).bnd fun x s =>
   if x then (evalE W.g C r s).bnd fun c s => (cmpv W.g C o' b c s).bnd fun x s => .ok (.bool x) s else .ok (.bool false) s) (gV W)
  rw [arm_eval_Compare, markedEach_of_false _ _ _ noMarks2]
  exact .bind ((ih h1).v β δ st) fun v st' β' δ' x _ g _ _ => .bind (.hold ((ih2 h2).v β' δ' st')) fun w st₂ β₂ δ₂ y _ g2 n2 s2 => cmp2_rest Z (g.mono n2 fun l hl => (s2 l hl).1) g2 fun β δ st => (ih3 h3).v β δ st
 ·show Ok W fx (isTrue (.Compare (l.dec W.nm W.sc) [o.dec, o'.dec] [m.dec W.nm W.sc, r.dec W.nm W.sc] p) fx.env _) β δ st (((evalE W.g C l st).bnd fun a s => (evalE W.g C m s).bnd fun b s => (cmpv W.g C o a b s).bnd fun x s =>
    if x then (evalE W.g C r s).bnd fun c s => (cmpv W.g C o' b c s).bnd fun x s => .ok (.bool x) s else .ok (.bool false) s).bnd fun v s => truth v s) gB
  rw [arm_isTrue_Compare, markedEach_of_false _ _ _ noMarks2]
  refine .assoc (.bind ((ih h1).v β δ st) fun v st' β' δ' x _ g _ _ => .assoc (.bind (.hold ((ih2 h2).v β' δ' st')) fun w st₂ β₂ δ₂ y _ g2 n2 s2 => .assoc ?_))
  exact cmp2_test Z (g.mono n2 fun l hl => (s2 l hl).1) g2 fun β δ st => (ih3 h3).v β δ st
omit Z in
theorem pe_ife (t a b : E) (p : Pos) (ih : PEw W fx C t) (ih2 : PEw W fx C a) (ih3 : PEw W fx C b) : PEw W fx C (.ife t a b p) := fun hw => by
 refine xo0_2 (Bool.and_eq_true_iff.mp hw) fun h12 h3 => ?_
 refine xo0_2 (Bool.and_eq_true_iff.mp h12) fun h1 h2 => ?_
 refine ⟨fun β δ st => ?_, fun β δ st => ?_⟩
 ·show Ok W fx (eval (.IfExp (t.dec W.nm W.sc) (a.dec W.nm W.sc) (b.dec W.nm W.sc) p) fx.env) β δ st ((evalT W.g C t st).bnd fun x s => if x then evalE W.g C a s else evalE W.g C b s) (gV W)
  rw [arm_eval_IfExp]
  exact .bind ((ih h1).t β δ st) fun v st' β' δ' x _ g _ _ => by cases g; exact .ite (fun _ => (ih2 h2).v β' δ' st') fun _ => (ih3 h3).v β' δ' st'
 ·show Ok W fx (isTrue (.IfExp (t.dec W.nm W.sc) (a.dec W.nm W.sc) (b.dec W.nm W.sc) p) fx.env _) β δ st (((evalT W.g C t st).bnd fun x s => if x then evalE W.g C a s else evalE W.g C b s).bnd fun v s => truth v s) gB
  rw [arm_isTrue_IfExp]
  refine .assoc (.bind ((ih h1).t β δ st) fun v st' β' δ' x _ g _ _ => ?_)
  cases g
  cases v with
  | true => exact (ih2 h2).t β' δ' st'
  | false => exact (ih3 h3).t β' δ' st'
theorem pe_call (f : E) (as : Es) (ks : Ks) (p : Pos) (ih : PEw W fx C f) (ih2 : PEsw W fx C as) (ih3 : PKsw W fx C ks) : PEw W fx C (.call f as ks p) := fun hw => by
 refine xo0_2 (Bool.and_eq_true_iff.mp hw) fun h1 e1_ => ?_; clear e1_
 refine xo0_2 (Bool.and_eq_true_iff.mp h1) fun h1 h4 => ?_
 refine xo0_2 (Bool.and_eq_true_iff.mp h1) fun h1 h3 => ?_
 refine xo0_2 (Bool.and_eq_true_iff.mp h1) fun h1 h2 => ?_
 have tr : eval ((E.call f as ks p).dec W.nm W.sc) fx.env = (eval (f.dec W.nm W.sc) fx.env >>= fun F => callWith p F [] (trees W fx.env as) (ktrees W fx.env p ks)) := by
  rw [← backToKw_dec, ← backTo_trees W fx.env p as, ← starEach_dec]
  cases f <;> first | rfl | exact ftE h1
 have key : ∀ β δ st, Ok W fx (eval ((E.call f as ks p).dec W.nm W.sc) fx.env) β δ st (evalE W.g C (.call f as ks p) st) (gV W) := fun β δ st => by
  rw [tr]
  refine .bind (f := fun v s => if canCall W.g v then (evalEs W.g C as s).bnd fun xs s => (evalKs W.g C ks s).bnd fun ys s => callV W.g C v xs ys s else .bad) ((ih h2).v β δ st) fun v st' β' δ' x _ g _ _ => .toA (.ifp fun hc => ?_)
  exact callWith_ok Z.B (canCall_keep Z hc g) (fun β δ st => (ih2 h3).v β δ st) (fun β δ st => ih3 h4 p β δ st) fun β' δ' st' xs Xs ys Ys _ _ gx gy => callV_ok (n := st.next) Z.B Z.Wo Z.Fu Z.K Z.CO (canCall_any hc g) gx gy
 exact ⟨key, fun β δ st => testOf (p := p) Z (key β δ st)⟩
theorem pe_mcall (o : E) (m : Nat) (q : Pos) (as : Es) (ks : Ks) (p : Pos) (ih : PEw W fx C o) (ih2 : PEsw W fx C as) (ih3 : PKsw W fx C ks) : PEw W fx C (.mcall o m q as ks p) := fun hw => by
 refine xo0_2 (Bool.and_eq_true_iff.mp hw) fun h1 h5 => ?_
 refine xo0_2 (Bool.and_eq_true_iff.mp h1) fun h1 h4 => ?_
 refine xo0_2 (Bool.and_eq_true_iff.mp h1) fun h1 h3 => ?_
 refine xo0_2 (Bool.and_eq_true_iff.mp h1) fun h1 h2 => ?_
 have h4 := of_decide_eq_true h4
 have h5 := of_decide_eq_true h5
 have key : ∀ β δ st, Ok W fx (eval ((E.mcall o m q as ks p).dec W.nm W.sc) fx.env) β δ st (evalE W.g C (.mcall o m q as ks p) st) (gV W) := fun β δ st => by
  show Ok W fx (eval (.Call (.Attribute (o.dec W.nm W.sc) (W.nm m) q) (as.dec W.nm W.sc) (ks.dec W.nm W.sc) p) fx.env) β δ st ((evalE W.g C o st).bnd fun v s => (match methodOf W.g v m s with
   | some mt => (evalEs W.g C as s).bnd fun xs s => (evalKs W.g C ks s).bnd fun ys s => callMt W.g C mt v xs ys s
   | none => .bad)) (gV W)
  rw [arm_eval_Call, attrBase Z.B, starEach_dec, backTo_trees, backToKw_dec, dec_len, kdec_len]
  refine .bind ((ih h1).v β δ st) fun v st' β' δ' x _ g _ _ => .stand ?_
  split
  ·rename_i mt hm
   have hform : methodCallForm (as.len + ks.len) (trees W fx.env as) (ktrees W fx.env p ks) = true := by
    unfold methodCallForm
    rw [trees_all, ktrees_all, Bool.true_and, Bool.true_and]
    refine decide_eq_true ?_
    split <;> omega
   unfold methodCall
   rw [hform]
   intro nb s inv
   refine wpAny_bind (wpAny_holding ?_)
   refine getM_ok Z.B Z.Wo Z.K inv g hm fun F hF => ?_
   dsimp only
   have hp : methodCallPos true (o.dec W.nm W.sc) fx.env q p = Pure.pure p := by
    unfold methodCallPos
    rw [h5]
    simp
   rw [hp]
   refine wpAny_bind (wpAny_pure ?_)
   exact callWith_ok Z.B (mt_keep Z.Fu hm hF) (fun β δ st => (ih2 h2).v β δ st) (fun β δ st => ih3 h3 p β δ st) (fun β₁ δ₁ st₁ xs Xs ys Ys n1 s1 gx gy => callMt_ok Z.B Z.Wo Z.K Z.CO Z.rm (g.mono n1 fun l hl => (s1 l hl).1) hm gx gy hF) nb s inv
  ·exact .bad
 exact ⟨key, fun β δ st => testOf (p := p) Z (key β δ st)⟩
theorem pe_lst (es : Es) (p : Pos) (ih : PEsw W fx C es) : PEw W fx C (.lst es p) := fun hw => by
 have key : ∀ β δ st, Ok W fx (eval ((E.lst es p).dec W.nm W.sc) fx.env) β δ st (evalE W.g C (.lst es p) st) (gV W) := fun β δ st => by
  show Ok W fx (eval (.List (es.dec W.nm W.sc) p) fx.env) β δ st ((evalEs W.g C es st).bnd fun xs s => if xs.length ≤ 1000 then Mine.alloc (.list xs) s else .bad) (gV W)
  rw [arm_eval_List, starEach_dec, backTo_trees]
  refine .stand (.bind ((ih hw).v β δ st) fun v st' β' δ' x _ g _ _ => ?_)
  exact .toA (.ifp fun h => newList_ok g h)
 exact ⟨key, fun β δ st => testOf (p := p) Z (key β δ st)⟩
theorem pe_tup (es : Es) (k : Nat) (p : Pos) (ih : PEsw W fx C es) : PEw W fx C (.tup es k p) := fun hw => by
 have key : ∀ β δ st, Ok W fx (eval ((E.tup es k p).dec W.nm W.sc) fx.env) β δ st (evalE W.g C (.tup es k p) st) (gV W) := fun β δ st => by
  show Ok W fx (eval (.Tuple (es.dec W.nm W.sc) k p) fx.env) β δ st ((evalEs W.g C es st).bnd fun xs s => if xs.length ≤ 1000 then Mine.alloc (.tup xs) s else .bad) (gV W)
  rw [arm_eval_Tuple, starEach_dec, backTo_trees]
  refine .stand (.bind ((ih hw).v β δ st) fun v st' β' δ' x _ g _ _ => ?_)
  exact .toA (.ifp fun h => newTup_ok g h)
 exact ⟨key, fun β δ st => testOf (p := p) Z (key β δ st)⟩
theorem pe_dct0 (p : Pos) : PEw W fx C (.dct0 p) := fun _ => ⟨fun _ _ _ => dct0_ok, fun _ _ _ => testOf (p := p) Z dct0_ok⟩
theorem pe_dct1 (k v : E) (p : Pos) (ih : PEw W fx C k) (ih2 : PEw W fx C v) : PEw W fx C (.dct1 k v p) := fun hw => by
 refine xo0_2 (Bool.and_eq_true_iff.mp hw) fun h1 h2 => ?_
 have key : ∀ β δ st, Ok W fx (eval ((E.dct1 k v p).dec W.nm W.sc) fx.env) β δ st (evalE W.g C (.dct1 k v p) st) (gV W) := fun β δ st => by
  show Ok W fx (eval (.Dict [some (k.dec W.nm W.sc)] [v.dec W.nm W.sc] p) fx.env) β δ st ((evalE W.g C k st).bnd fun a s => (evalE W.g C v s).bnd fun b s => asInt a fun i => Mine.alloc (.dict [(.int i, b)]) s) (gV W)
  intro nb s inv
  have inv0 : Inv W fx β δ st ({ s with heap := s.heap.push emptyDict } : Shared).heap := inv.grow (push_keeps emptyDict)
  refine wpAny_Dict_walk (knd := intKind W.prog W.w) rfl rfl (by simp) (by simp) (pairTrees_cons_walk ?_)
  have tr : ∀ {α : Type} {r : R α} {x : Value} {s' : Shared}, Raised W fx β δ st { s with heap := s.heap.push emptyDict } r x s' → Raised W fx β δ st s r x s' := fun h => Raised.trans (Go.grow (push_keeps emptyDict)) rfl h
  refine wpAny_mono (((ih h1).v β δ st).seq nb inv0 (Q := fun a s₁ => wpAny _ fx.A (eval (v.dec W.nm W.sc) fx.env) _ (Raised W fx β δ st { s with heap := s.heap.push emptyDict } _) s₁) fun a st₁ β₁ δ₁ x s₁ e1 g1 i1 o1 q1 => ?_) (fun _ _ h => wpAny_mono h (fun _ _ h => pairTrees_nil_walk h) fun _ _ h => tr h) fun _ _ h => tr h
  rw [e1, R.bnd_ok] at nb ⊢
  refine wpAny_mono (((ih2 h2).v β₁ δ₁ st₁).seq nb i1 fun b st₂ β₂ δ₂ y s₂ e2 g2 i2 o2 q2 => ?_) (fun _ _ h => h) fun _ _ h => Raised.trans o1 q1 h
  rw [e2, R.bnd_ok] at nb ⊢
  have o := o1.trans o2
  have qq : s₂ = { s with heap := s₂.heap, toks := s₂.toks } := same_trans (s := s) (s' := s₁) (by rw [q1]) q2
  cases a with
  | int i => obtain ⟨t, rfl⟩ := g1; exact dict_adopt inv o i2 g2 qq
  | _ => exact (nb rfl).elim
 exact ⟨key, fun β δ st => testOf (p := p) Z (key β δ st)⟩
omit Z in
theorem pes_nil : PEsw W fx C .nil := fun _ => ⟨fun _ _ _ => .pure .nil, fun _ _ _ _ _ => .bad, fun _ _ _ _ => .bad⟩
omit Z in
theorem truth_same {v : AV} {s s' : St} {b : Bool} (h : truth v s = .ok b s') : s' = s := by
 cases v with
 | none => cases h; rfl
 | bool _ => cases h; rfl
 | int _ => cases h; rfl
 | loc l =>
  revert h
  show atObj s l _ = _ → _
  unfold atObj
  cases s.heap l with
  | none => exact nofun
  | some o => cases o <;> (intro h; cases h <;> rfl)
 | _ => exact absurd h nofun
set_option backward.match.sparseCases true in
theorem pes_cons (e : E) (r : Es) (ih : PEw W fx C e) (ih2 : PEsw W fx C r) : PEsw W fx C (.cons e r) := fun hw => by
 refine xo0_2 (Bool.and_eq_true_iff.mp hw) fun h1 h2 => ?_
 refine ⟨fun β δ st => ?_, fun op p β δ st => ?_, fun op β δ st => ?_⟩
 ·show Ok W fx (spliced ((false, eval (e.dec W.nm W.sc) fx.env) :: trees W fx.env r)) β δ st ((evalE W.g C e st).bnd fun v s => (evalEs W.g C r s).bnd fun vs s => .ok (v :: vs) s) (gVs W)
  rw [spliced]
  refine .bind ((ih h1).v β δ st) fun v st' β' δ' x _ g _ _ => ?_
  show Ok W fx (pure [x] >>= fun here => holding here (spliced (trees W fx.env r)) >>= fun vs => pure (here ++ vs)) _ _ _ _ _
  refine .pureBind ?_
  exact .bind (.hold ((ih2 h2).v β' δ' st')) fun vs st₂ β₂ δ₂ ys _ g2 n2 s2 => .pure (.cons (g.mono n2 fun l hl => (s2 l hl).1) g2)
 ·cases r with
  | nil => exact (ih h1).v β δ st
  | cons e' r =>
   show Ok W fx (eval (e.dec W.nm W.sc) fx.env >>= fun v => standAt p >>= fun _ => holding [v] (truthy v) >>= fun t => (match (if op then BoolOp.And else BoolOp.Or), t with
    | .And, false | .Or, true => Pure.pure v
    | _, _ => boolOp p (if op then .And else .Or) (evalEach ((Es.cons e' r).dec W.nm W.sc) fx.env))) β δ st ((evalE W.g C e st).bnd fun v s => (truth v s).bnd fun b s => if b = op then evalB W.g C op (.cons e' r) s else .ok v s) (gV W)
   refine .bind ((ih h1).v β δ st) fun v st' β' δ' x _ g _ _ => .stand (.bind (.hold (truth_ok Z.Wo g)) fun b st₂ β₂ δ₂ y _ g2 n2 s2 => ?_)
   cases g2
   cases op <;> cases b
   ·exact (ih2 h2).b false p β₂ δ₂ st₂
   ·exact .pure (g.mono n2 fun l hl => (s2 l hl).1)
   ·exact .pure (g.mono n2 fun l hl => (s2 l hl).1)
   ·exact (ih2 h2).b true p β₂ δ₂ st₂
 ·have e1 : ((evalB W.g C op (.cons e r) st).bnd fun v s => truth v s) = (evalT W.g C e st).bnd fun b s => if b = op then (match r with | .nil => .ok op s | _ => (evalB W.g C op r s).bnd fun v s => truth v s) else .ok (!op) s := by
   cases r with
   | nil =>
    show evalT W.g C e st = (evalT W.g C e st).bnd fun b s => if b = op then .ok op s else .ok (!op) s
    cases evalT W.g C e st with
    | ok b s => cases b <;> cases op <;> rfl
    | ex c cl s => rfl
    | bad => rfl
   | cons e' r =>
    show (((evalE W.g C e st).bnd fun v s => (truth v s).bnd fun b s => if b = op then evalB W.g C op (.cons e' r) s else .ok v s).bnd fun v s => truth v s) = ((evalE W.g C e st).bnd fun v s => truth v s).bnd _
    rw [R.bnd_bnd, R.bnd_bnd]
    refine congrArg _ (funext fun v => funext fun s => ?_)
    rw [R.bnd_bnd]
    cases q : truth v s with
    | ok b s' =>
     cases truth_same q
     show (if b = op then _ else _ : R AV).bnd _ = if b = op then _ else _
     by_cases w : b = op
     ·rw [if_pos w, if_pos w]
     ·rw [if_neg w, if_neg w, R.bnd_ok, q]
      cases b <;> cases op <;> first | rfl | exact (w rfl).elim
    | ex c cl s => rfl
    | bad => rfl
  rw [e1]
  show Ok W fx (allTrue (if op then .And else .Or) (e.dec W.nm W.sc :: r.dec W.nm W.sc) fx.env) β δ st _ gB
  rw [arm_allTrue_cons]
  refine .bind ((ih h1).t β δ st) fun v st' β' δ' x _ g _ _ => ?_
  cases g
  cases op <;> cases v
  ·cases r with
   | nil => exact .pure rfl
   | cons e' r => exact (ih2 h2).t false β' δ' st'
  ·exact .pure rfl
  ·exact .pure rfl
  ·cases r with
   | nil => exact .pure rfl
   | cons e' r => exact (ih2 h2).t true β' δ' st'
omit Z in
theorem pks_cons (n : Nat) (e : E) (q : Pos) (r : Ks) (ih : PEw W fx C e) (ih2 : PKsw W fx C r) : PKsw W fx C (.cons n e q r) := fun hw p β δ st => by
 refine xo0_2 (Bool.and_eq_true_iff.mp hw) fun h1 h2 => ?_
 show Ok W fx (evalAll (((some (W.nm n), do let v ← eval (e.dec W.nm W.sc) fx.env; standAt p; pure v) :: ktrees W fx.env p r).map (·.2))) β δ st ((evalE W.g C e st).bnd fun v s => (evalKs W.g C r s).bnd fun vs s => .ok ((n, v) :: vs) s) _
 rw [List.map_cons, evalAll]
 intro nb s inv
 refine wpAny_bind (wpAny_bind ?_)
 refine ((ih h1).v β δ st).seq nb inv fun v st₁ β₁ δ₁ x s₁ e1 g1 i1 o1 q1 => wpAny_bind (wpAny_standAt (wpAny_pure ?_))
 rw [e1, R.bnd_ok] at nb ⊢
 have key : Ok W fx (holding [x] (evalAll ((ktrees W fx.env p r).map (·.2))) >>= fun vs => Pure.pure (x :: vs)) β₁ δ₁ st₁ ((evalKs W.g C r st₁).bnd fun vs s => .ok ((n, v) :: vs) s) (gKs W (.cons n e q r)) :=
  .bind (.hold (ih2 h2 p β₁ δ₁ st₁)) fun vs st₂ β₂ δ₂ ys _ g2 n2 s2 => .pure ⟨.cons (g1.mono n2 fun l hl => (s2 l hl).1) g2.1, by show (n :: vs.map (·.1)) = n :: r.names; rw [g2.2]⟩
 exact wpAny_mono (key nb s₁ i1) (fun _ _ h => After.trans o1 q1 h) fun _ _ h => Raised.trans o1 q1 h
theorem pe_all (e : E) : PEw W fx C e :=
 E.rec (motive_1 := PEw W fx C) (motive_2 := PEsw W fx C) (motive_3 := PKsw W fx C) (pe_lv Z) (pe_gv Z) (pe_cst Z) (pe_attr Z) (pe_sub Z) (pe_upto Z) (pe_bin Z) (pe_neg Z) (pe_not Z) pe_band pe_bor (pe_cmp Z) (pe_cmp2 Z) pe_ife (pe_call Z) (pe_mcall Z) (pe_lst Z) (pe_tup Z)
  (pe_dct0 Z) (pe_dct1 Z) (fun _ _ _ _ _ _ _ _ _ _ => nofun) pes_nil (pes_cons Z) (fun _ _ _ _ _ => .pure ⟨.nil, rfl⟩) pks_cons e
theorem pes_all (es : Es) : PEsw W fx C es := by
 match es with
 | .nil => exact pes_nil
 | .cons e r => exact pes_cons Z e r (pe_all Z e) (pes_all r)
theorem evalE_ok (e : E) (hw : e.wf W.gl fx.kd = true) (β δ : Nat → Addr) (st : St) : Ok W fx (eval (e.dec W.nm W.sc) fx.env) β δ st (evalE W.g C e st) (gV W) := (pe_all Z e hw).v β δ st
theorem evalEs_ok (es : Es) (hw : es.wf W.gl fx.kd = true) (β δ : Nat → Addr) (st : St) : Ok W fx (spliced (trees W fx.env es)) β δ st (evalEs W.g C es st) (gVs W) := (pes_all Z es hw).v β δ st
theorem evalT_ok (e : E) (hw : e.wf W.gl fx.kd = true) (β δ : Nat → Addr) (st : St) : Ok W fx (isTrue (e.dec W.nm W.sc) fx.env (eval (e.dec W.nm W.sc) fx.env)) β δ st (evalT W.g C e st) gB := (pe_all Z e hw).t β δ st
end
end Mine
end
section
open PySem PySem.W PyProof.Rows PySem.Calls PySem.SeqAt
namespace Mine
theorem entry_unchain : entryFor table "proto.unchain" = some Builtin.«proto.unchain» := entryFor_of_tree (by kernel_rfl)
theorem plain_unchain : plainId "proto.unchain" = true := by decide +kernel
section
variable {W : Wd} {fx : Fx} {β δ β' δ' : Nat → Addr} {st st' : St} {s : Shared} {h' : Heap} {n : Nat} {C : Nat → List AV → St → R AV} {A : Around}
theorem raiseNew_held {α : Type} {P : Program} {w : World} {e h : Addr} {oe : Obj} {vs : Array Value} {Q : α → Shared → Prop} {E : Value → Shared → Prop} (hA : A.handled = some (.ref h)) (hne : h ≠ e) (hh : Held s.heap h) (he : s.heap.get? e = some oe) (hd : oe.data = .fields vs) (hz : 2 < vs.size)
  (hE : E (.ref e) { s with heap := s.heap.update e (Obj.mapFields (·.setIfInBounds 2 (.ref h))) }) : wpAny (model P w) A (raiseNew (.ref e) : Sem α) Q E s := by
 refine xo2_4 hh fun oh us a1 a2 a3 a4 => ?_; clear hh
 unfold raiseNew
 refine wpAny_bind (wpAny_handled ?_)
 rw [hA]
 dsimp only
 rw [if_pos (by simpa using hne)]
 refine wpAny_bind (wpAny_holding (wpAny_runValue (codeAny_builtin entry_unchain ?_)))
 unfold Builtin.«proto.unchain»
 dsimp only
 refine wpAny_bind (wpAny_field a1 a2 a4 ?_)
 rw [if_pos (by simp)]
 refine wpAny_bind (wpAny_pure (wpAny_pure ?_))
 exact wpAny_bind (show wpAny _ A (setField (.ref e) 2 (.ref h)) _ E s from wpAny_setField he hd hz (wpAny_throw hE))
noncomputable def HeldOk (fx : Fx) (hd : Nat) (h : Heap) : Prop := (hd = 0 ∧ fx.A.handled = none) ∨ (hd = 1 ∧ ∃ e, fx.A.handled = some (.ref e) ∧ Held h e)
theorem Inv.heldOk (inv : Inv W fx β δ st s.heap) (hd : st.hd ≤ 1) : HeldOk fx st.hd s.heap := by
 have z := inv.hd
 cases q : st.hd with
 | zero => rw [q] at z; exact .inl ⟨rfl, z⟩
 | succ k =>
  cases k with
  | zero => rw [q] at z; obtain ⟨e, a, b, _⟩ := z; exact .inr ⟨rfl, e, a, b⟩
  | succ k => omega
theorem HeldOk.keep {hd : Nat} {h h' : Heap} (x : HeldOk fx hd h) (k : ∀ e o, fx.A.handled = some (.ref e) → h.get? e = some o → h'.get? e = some o) : HeldOk fx hd h' := by
 rcases x with x | ⟨q, e, a, oe, vs, b, c⟩
 ·exact .inl x
 ·exact .inr ⟨q, e, a, oe, vs, k e oe a b, c⟩
theorem raiseNew_any {α : Type} {P : Program} {w : World} {e : Addr} {oe : Obj} {vs : Array Value} {hd : Nat} {Q : α → Shared → Prop} {E : Value → Shared → Prop} (hA : A.handled = fx.A.handled) (hh : HeldOk fx hd s.heap) (hne : fx.A.handled ≠ some (.ref e))
  (he : s.heap.get? e = some oe) (hdat : oe.data = .fields vs) (hz : 2 < vs.size)
  (hE : ∀ h'', (∀ b x, b ≠ e → s.heap.get? b = some x → h''.get? b = some x) → (∃ oe' vs', h''.get? e = some oe' ∧ oe'.cls = oe.cls ∧ oe'.data = .fields vs' ∧ vs'.size = vs.size ∧ vs'[1]? = vs[1]? ∧ (hd = 0 → vs'[2]? = vs[2]?)) → E (.ref e) { s with heap := h'' }) :
  wpAny (model P w) A (raiseNew (.ref e) : Sem α) Q E s := by
 rcases hh with ⟨_, q⟩ | ⟨q0, h, q, z⟩
 ·exact wpAny_raiseNew_none (hA.trans q) (hE s.heap (fun _ _ _ e => e) ⟨oe, vs, he, rfl, hdat, rfl, rfl, fun _ => rfl⟩)
 ·have ne : h ≠ e := fun w => hne (w ▸ q)
  refine raiseNew_held (hA.trans q) ne z he hdat hz (hE _ (fun b x hb ex => (Heap.get?_update_other _ _ (Ne.symm hb)).trans ex) ⟨_, _, Heap.get?_update_self _ he (notFreed_of_fields (mapFields_data hdat _)), mapFields_cls _ _, mapFields_data hdat _, by simp, ?_, fun q => ?_⟩)
  ·rw [Array.getElem?_setIfInBounds_ne (by decide)]
  ·omega
noncomputable def KeepBut (it : Addr) (h h' : Heap) : Prop := Heap.ExtBut it h h' ∧ ∃ o, h'.get? it = some o
theorem stop_any {P : Program} {w : World} {hd : Nat} {it : Addr} {h₀ : Heap} {Q : Option Value → Shared → Prop} {E : Value → Shared → Prop} {α : Type} {Q' : α → Shared → Prop} {A₂ : Around} (hA : A.handled = fx.A.handled) (hh : HeldOk fx hd s.heap) (k : KeepBut it h₀ s.heap)
  (hlt : ∀ e, fx.A.handled = some (.ref e) → e < s.heap.objs.size)
  (hQ : ∀ h', KeepBut it h₀ h' → Q none { s with heap := h' }) :
  wpAny (model P w) A (newExc (.type "StopIteration") [] >>= fun e => (raiseNew e : Sem α)) Q' (fun e s' => wpAny (model P w) A₂ (do if ← isInstance e (.type "StopIteration") then pure none else throw e) Q E s') s := by
 refine wpAny_bind ?_
 simp only [newExc, newTuple]
 refine wpAny_bind (wpAny_newObj_type ?_ (by size_fits))
 refine wpAny_bind (m := firstArgMember _ _) (wpAny_of_eq (a := Value.none) (by first | rfl | (simp only [firstArgMember]; rfl)) ?_)
 refine wpAny_newObj_type ?_ (by size_fits)
 refine raiseNew_any (fx := fx) (hd := hd) hA (hh.keep fun e o _ he => Heap.get?_push_of_some _ (Heap.get?_push_of_some _ he)) ?_ (Heap.get?_push_size _ rfl) rfl (by simp; omega) fun h'' k2 hx => ?_
 ·intro q
  have := hlt _ q
  rw [Heap.size_push] at this
  exact absurd this (Nat.not_lt.mpr (Nat.le_succ _))
 ·refine xo2_4 hx fun oe' vs' e1 e2 e3 _ => ?_; clear hx
  refine wpAny_bind (wpAny_isInstance (T := "StopIteration") (b := true) ⟨oe', e1, e2⟩ isSubtype_stop ?_)
  have key : ∀ b x, s.heap.get? b = some x → h''.get? b = some x := fun b x ex => by
   refine k2 b x ?_ (Heap.get?_push_of_some _ (Heap.get?_push_of_some _ ex))
   intro q
   have := Heap.lt_size ex
   rw [q, Heap.size_push] at this
   exact absurd this (Nat.not_lt.mpr (Nat.le_succ _))
  exact wpAny_pure (hQ h'' ⟨fun b x hb ex => key b x (k.1 b x hb ex), let ⟨o, e⟩ := k.2; ⟨o, key it o e⟩⟩)
theorem Inv.hlt (inv : Inv W fx β δ st s.heap) (hd : st.hd ≤ 1) {h' : Heap} (k : ∀ e o, fx.A.handled = some (.ref e) → s.heap.get? e = some o → ∃ o', h'.get? e = some o') : ∀ e, fx.A.handled = some (.ref e) → e < h'.objs.size := fun e he => by
 rcases inv.heldOk hd with ⟨_, q⟩ | ⟨_, e', q, oe, vs, b, _⟩
 ·rw [he] at q; cases q
 ·rw [he] at q; cases q
  refine xo1_1 (k e oe he b) fun o' e1 => ?_
  exact Heap.lt_size e1
theorem next_list_end {P : Program} {w : World} {it l : Addr} {i : Nat} {items : Array Value} {Q : Option Value → Shared → Prop} {E : Value → Shared → Prop} (inv : Inv W fx β δ st s.heap) (hd : st.hd ≤ 1) (hne : fx.A.handled ≠ some (.ref it))
  (hit : s.heap.IsListIter it l i) (hl : s.heap.IsList l items) (hx : items[i]? = none) (hQ : ∀ h', KeepBut it s.heap h' → Q none { s with heap := h' }) : wpAny (model P w) fx.A (pyNext (.ref it)) Q E s := by
 refine xo1_3 (id hit) fun o ho hc hdd => ?_
 refine xm_eaaea hl fun ol hol _ nl hdl => ?_; clear hl
 unfold pyNext
 refine wpAny_bind (wpAny_attempt (wpAny_callSpecial?_slot (name := Str.ofString "__next__") hit.typeIs slot_listiter_next (wpAny_call_entry slot_listiter_next hit.typeIs entry_listiter_next ?_ (args_listiter_next _))))
 show wpAny _ _ (field (.ref it) 0 >>= _) _ _ s
 refine wpAny_bind (wpAny_field ho hdd (x := .ref l) rfl ?_)
 show wpAny _ _ (if (Value.ref l == Value.none) = true then _ else _) _ _ s
 rw [if_neg (show ¬ ((Value.ref l == Value.none) = true) from Bool.false_ne_true)]
 show wpAny _ _ (field (.ref it) 1 >>= _) _ _ s
 refine wpAny_bind (wpAny_field ho hdd (x := .int i 0) rfl ?_)
 show wpAny _ _ (seqItems? (.ref l) >>= _) _ _ s
 refine wpAny_bind (wpAny_seqItems hol hdl ?_)
 simp only [Int.toNat_natCast, hx]
 have oth : ∀ b x, b ≠ it → s.heap.get? b = some x → (s.heap.update it (Obj.mapFields (·.setIfInBounds 0 .none))).get? b = some x := fun b x hb e => (Heap.get?_update_other _ _ (Ne.symm hb)).trans e
 refine wpAny_bind (wpAny_rule (wpAny_bind (wpAny_setField ho hdd (by simp) ?_)))
 have nh : ∀ e, fx.A.handled = some (.ref e) → e ≠ it := fun e he q => hne (q ▸ he)
 exact stop_any (fx := fx) (hd := st.hd) (it := it) (h₀ := s.heap) (s := { s with heap := s.heap.update it (Obj.mapFields (·.setIfInBounds 0 .none)) }) (A := fx.A.in1) rfl ((inv.heldOk hd).keep fun e o he ho => oth e o (nh e he) ho) ⟨fun b x hb e => oth b x hb e, _, Heap.get?_update_self _ ho (notFreed_of_fields (mapFields_data hdd _))⟩ (inv.hlt hd (h' := s.heap.update it (Obj.mapFields (·.setIfInBounds 0 .none))) fun e o he ho => ⟨o, oth e o (nh e he) ho⟩) hQ
theorem next_tup_end {P : Program} {w : World} {it l : Addr} {i : Nat} {items : Array Value} {Q : Option Value → Shared → Prop} {E : Value → Shared → Prop} (inv : Inv W fx β δ st s.heap) (hd : st.hd ≤ 1) (hne : fx.A.handled ≠ some (.ref it))
  (hit : s.heap.IsTupleIter it l i) (hl : s.heap.IsTuple l items) (hx : items[i]? = none) (hQ : ∀ h', KeepBut it s.heap h' → Q none { s with heap := h' }) : wpAny (model P w) fx.A (pyNext (.ref it)) Q E s := by
 refine xo1_3 (id hit) fun o ho hc hdd => ?_
 refine xm_eaaea hl fun ol hol _ nl hdl => ?_; clear hl
 unfold pyNext
 refine wpAny_bind (wpAny_attempt (wpAny_callSpecial?_slot (name := Str.ofString "__next__") hit.typeIs F.slot_tuple_iterator_next (wpAny_call_entry F.slot_tuple_iterator_next hit.typeIs F.entry_tuple_iterator_next ?_ (F.args_tuple_iterator_next_1 _))))
 show wpAny _ _ (field (.ref it) 0 >>= _) _ _ s
 refine wpAny_bind (wpAny_field ho hdd (x := .ref l) rfl ?_)
 show wpAny _ _ (if (Value.ref l == Value.none) = true then _ else _) _ _ s
 rw [if_neg (show ¬ ((Value.ref l == Value.none) = true) from Bool.false_ne_true)]
 show wpAny _ _ (field (.ref it) 1 >>= _) _ _ s
 refine wpAny_bind (wpAny_field ho hdd (x := .int i 0) rfl ?_)
 show wpAny _ _ (seqItems? (.ref l) >>= _) _ _ s
 refine wpAny_bind (wpAny_seqItems hol hdl ?_)
 simp only [Int.toNat_natCast, hx]
 have oth : ∀ b x, b ≠ it → s.heap.get? b = some x → (s.heap.update it (Obj.mapFields (·.setIfInBounds 0 .none))).get? b = some x := fun b x hb e => (Heap.get?_update_other _ _ (Ne.symm hb)).trans e
 refine wpAny_bind (wpAny_rule (wpAny_bind (wpAny_setField ho hdd (by simp) ?_)))
 have nh : ∀ e, fx.A.handled = some (.ref e) → e ≠ it := fun e he q => hne (q ▸ he)
 exact stop_any (fx := fx) (hd := st.hd) (it := it) (h₀ := s.heap) (s := { s with heap := s.heap.update it (Obj.mapFields (·.setIfInBounds 0 .none)) }) (A := fx.A.in1) rfl ((inv.heldOk hd).keep fun e o he ho => oth e o (nh e he) ho) ⟨fun b x hb e => oth b x hb e, _, Heap.get?_update_self _ ho (notFreed_of_fields (mapFields_data hdd _))⟩ (inv.hlt hd (h' := s.heap.update it (Obj.mapFields (·.setIfInBounds 0 .none))) fun e o he ho => ⟨o, oth e o (nh e he) ho⟩) hQ
theorem next_rng_end {P : Program} {w : World} {it : Addr} {x left step : Int} {Q : Option Value → Shared → Prop} {E : Value → Shared → Prop} (inv : Inv W fx β δ st s.heap) (hd : st.hd ≤ 1)
  (hit : IsRangeIter s.heap it x left step) (hleft : left ≤ 0) (hQ : ∀ h', KeepBut it s.heap h' → Q none { s with heap := h' }) : wpAny (model P w) fx.A (pyNext (.ref it)) Q E s := by
 have hT : s.TypeIs (.ref it) "range_iterator" := ⟨_, hit, rfl⟩
 unfold pyNext
 refine wpAny_bind (wpAny_attempt (wpAny_callSpecial?_slot (name := Str.ofString "__next__") hT F.slot_range_iterator_next (wpAny_call_entry F.slot_range_iterator_next hT F.entry_range_iterator_next ?_ (F.args_range_iterator_next_1 _))))
 show wpAny _ _ (field (.ref it) 0 >>= _) _ _ s
 refine wpAny_bind (wpAny_field hit rfl (x := rawInt x) rfl ?_)
 show wpAny _ _ (field (.ref it) 1 >>= _) _ _ s
 refine wpAny_bind (wpAny_field hit rfl (x := rawInt left) rfl ?_)
 show wpAny _ _ (field (.ref it) 2 >>= _) _ _ s
 refine wpAny_bind (wpAny_field hit rfl (x := rawInt step) rfl ?_)
 show wpAny _ _ (if left ≤ 0 then _ else _) _ _ s
 rw [if_pos hleft]
 refine wpAny_bind (wpAny_rule ?_)
 refine wpAny_bind ?_
 show wpAny _ _ (newExc (.type "StopIteration") [] >>= fun e => raiseNew e) _ _ s
 exact stop_any (fx := fx) (hd := st.hd) (it := it) (h₀ := s.heap) (A := fx.A.in1) rfl (inv.heldOk hd) ⟨fun b x hb e => e, _, hit⟩ (inv.hlt hd (h' := s.heap) fun e o he ho => ⟨o, ho⟩) hQ
noncomputable def IterAt (β : Nat → Addr) (h : Heap) (it : Addr) (v : It) (i : Nat) : Prop := match v with
 | .list l => h.IsListIter it (β l) i
 | .tup l => h.IsTupleIter it (β l) i
 | .rng k => IsRangeIter h it i (k - i) 1 ∧ i ≤ k
noncomputable def ItOk (v : It) (n : Nat) : Prop := match v with
 | .list l => l < n
 | .tup l => l < n
 | .rng _ => True
theorem IterAt.live {h : Heap} {it : Addr} {v : It} {i : Nat} (x : IterAt β h it v i) : ∃ o, h.get? it = some o := by
 cases v with
 | list l => obtain ⟨o, e, _⟩ := x; exact ⟨o, e⟩
 | tup l => obtain ⟨o, e, _⟩ := x; exact ⟨o, e⟩
 | rng k => exact ⟨_, x.1⟩
theorem IterAt.same {h h' : Heap} {it : Addr} {v : It} {i : Nat} (x : IterAt β h it v i) (hv : ItOk v n) (e : ∀ o, h.get? it = some o → h'.get? it = some o) (hs : ∀ l, l < n → β' l = β l) : IterAt β' h' it v i := by
 cases v with
 | list l => obtain ⟨o, a, b⟩ := x; exact ⟨o, e o a, by rw [hs l hv]; exact b⟩
 | tup l => obtain ⟨o, a, b⟩ := x; exact ⟨o, e o a, by rw [hs l hv]; exact b⟩
 | rng k => exact ⟨e _ x.1, x.2⟩
theorem pyIter_ok {v : AV} {V : Value} {it : It} {E : Value → Shared → Prop} {Q : Value → Shared → Prop} (inv : Inv W fx β δ st s.heap) (hv : VR W β st.next v V) (hi : iterOf v st = some it)
  (hQ : ∀ ob, IterAt β (s.heap.push ob) s.heap.objs.size it 0 → ItOk it st.next → Q (.ref s.heap.objs.size) { s with heap := s.heap.push ob }) : wpAny (model W.prog W.w) A (pyIter V) Q E s := by
 unfold iterOf at hi
 split at hi
 ·rename_i l
  refine xo0_2 hv fun hl e1_ => ?_; clear hv; obtain rfl := e1_
  split at hi
  ·rename_i xs q
   obtain rfl := Option.some.inj hi
   obtain ⟨Vs, ep, a, b, d⟩ := inv.rel.obj l _ q
   exact wpAny_pyIter_list (items := Vs.toArray) (IsL.isList a) (hQ _ ⟨_, Heap.get?_push_size _ rfl, rfl, rfl⟩ hl)
  ·rename_i xs q
   obtain rfl := Option.some.inj hi
   obtain ⟨Vs, a, b, d⟩ := inv.rel.obj l _ q
   exact wpAny_pyIter_tuple (items := Vs.toArray) ⟨_, a, rfl, _, rfl⟩ (hQ _ ⟨_, Heap.get?_push_size _ rfl, rfl, rfl⟩ hl)
  ·rename_i k q
   obtain rfl := Option.some.inj hi
   obtain ⟨⟨t, u, v, a⟩, h0, h1⟩ := inv.rel.obj l _ q
   have e : Builtin.Range.rangeSize 0 k 1 = k := by
    rw [show Builtin.Range.rangeSize 0 k 1 = ((k - 0).toNat : Int) from rangeSize_nat 0 k]; omega
   refine wpAny_pyIter_range a ?_ ?_
   ·unfold Builtin.Range.small
    rw [e]
    unfold Builtin.Range.rangeFitsLong
    simp
    omega
   ·rw [e]
    exact hQ _ ⟨by
     have := Heap.get?_push_size s.heap (o := { cls := .type "range_iterator", data := .fields #[rawInt 0, rawInt k, rawInt 1] }) rfl
     simpa [IsRangeIter] using this, h0⟩ trivial
  ·exact nsE hi
 ·exact nsE hi
end
end Mine
end
section
open PySem PySem.W PyProof.Rows PySem.Calls PySem.SeqAt
namespace Mine
section
variable {W : Wd} {fx : Fx} {β δ β' δ' : Nat → Addr} {st st' : St} {s : Shared} {h h' : Heap} {n : Nat} {C : Nat → List AV → St → R AV} {A : Around}
theorem NewAt.ne (N : NewAt W fx β δ st h₁) (inv : Inv W fx β δ st s.heap) (hd : st.hd ≤ 1) : fx.A.handled ≠ some (.ref h₁) := fun q => by
 rcases inv.heldOk hd with ⟨_, z⟩ | ⟨z, _⟩
 ·rw [q] at z; exact snE z
 ·exact N.held h₁ z q rfl
theorem NewAt.go {it : Addr} {h₀ h₁ : Heap} (N : NewAt W fx β δ st it) (o : Go fx β δ st h₀ β' δ' st' h₁) (e : h₀.get? it ≠ none) : NewAt W fx β' δ' st' it :=
 ⟨fun q => N.own (o.own_old e q), N.frs, N.base, fun e q he => N.held e (o.hd.symm.trans q) he⟩
theorem Inv.atFree {it : Addr} (inv : Inv W fx β δ st h) (N : NewAt W fx β δ st it) (k : KeepBut it h h') : Inv W fx β δ st h' ∧ Go fx β δ st (h.hide it) β δ st h' := by
 have lv : ∀ b o, h.get? b = some o → ∃ o', h'.get? b = some o' := fun b o e => by
  by_cases q : b = it
  ·rw [q]; exact k.2
  ·exact ⟨o, k.1 b o q e⟩
 have hh : ∀ b, b ≠ it → (h.hide it).get? b = h.get? b := fun b hb => Heap.hide_ne h hb
 have T : Tch fx (Free fx β δ st.next) (h.hide it) h h' := ⟨fun b o e nf hc => by
   by_cases q : b = it
   ·subst q
    rcases hc with hc | hc
    ·exact (hc (Heap.hide_self h b)).elim
    ·exact (hc ⟨N.own, N.frs⟩).elim
   ·exact k.1 b o q e, lv, fun b hb o e => ⟨o.slots, k.1 b o (fun q => N.frs (q ▸ hb)) e⟩⟩
 refine ⟨inv.touch T (fun b o e => (hh b fun q => by rw [q, N.base] at e; cases e).trans (inv.stays b o e)) fun q e he => ?_, ⟨Nat.le_refl _, fun _ _ => ⟨rfl, rfl⟩, fun l a b => absurd b (Nat.not_lt.mpr a), fun b o e no nf => ?_, fun b hb hL o e => ?_, rfl, fun b o e => ?_⟩⟩
 ·rw [hh e (N.held e q he)]; exact inv.hlow q e he
 ·by_cases q : b = it
  ·rw [q, Heap.hide_self] at e; exact nsE e
  ·rw [hh b q] at e; exact k.1 b o q e
 ·by_cases q : b = it
  ·exact (N.frs (q ▸ hb)).elim
  ·rw [hh b q] at e; exact ⟨o.slots, k.1 b o q e⟩
 ·by_cases q : b = it
  ·rw [q, Heap.hide_self] at e; exact nsE e
  ·rw [hh b q] at e; exact lv b o e
theorem Go.past {it : Addr} {h₀ : Heap} (x : Go fx β δ st h₀ β' δ' st' h) (e0 : h₀.get? it = Option.none) (N : NewAt W fx β' δ' st' it) (k : KeepBut it h h') : Go fx β δ st h₀ β' δ' st' h' where
 next := x.next
 same := x.same
 new := x.new
 keep b o e no nf := k.1 b o (fun q => by rw [q, e0] at e; cases e) (x.keep b o e no nf)
 frames b hb hL o e := let ⟨sl, e1⟩ := x.frames b hb hL o e; ⟨sl, k.1 b _ (fun q => N.frs (q ▸ hb)) e1⟩
 hd := x.hd
 live b o e := let ⟨o', e1⟩ := x.live b o e; ⟨o', k.1 b _ (fun q => by rw [q, e0] at e; cases e) e1⟩
theorem next_ok {v : It} {it : Addr} {i : Nat} {r : Option AV} {E : Value → Shared → Prop} {Q : Option Value → Shared → Prop} (inv : Inv W fx β δ st s.heap) (N : NewAt W fx β δ st it) (hit : IterAt β s.heap it v i) (hi : itemAt v i st = some r) (hd : r = none → st.hd ≤ 1)
  (hQ : ∀ h' tk X, KeepBut it s.heap h' → (match r with | none => X = none | some x => IterAt β h' it v (i + 1) ∧ ∃ V, X = some V ∧ VR W β st.next x V) → Q X { s with heap := h', toks := tk }) : wpAny (model W.prog W.w) fx.A (pyNext (.ref it)) Q E s := by
 cases v with
 | list l =>
  unfold itemAt at hi
  dsimp only at hi
  split at hi
  ·rename_i xs q
   obtain ⟨Vs, ep, a, b, d⟩ := inv.rel.obj l _ q
   have hL : s.heap.IsList (β l) Vs.toArray := IsL.isList a
   obtain rfl := Option.some.inj hi
   cases hx : xs[i]? with
   | none =>
    rw [hx] at hd hQ
    exact next_list_end inv (hd rfl) (N.ne inv (hd rfl)) hit hL (by simpa using b.none hx) fun h' k => hQ h' s.toks none k rfl
   | some x =>
    rw [hx] at hd hQ
    refine xo1_2 (b.get hx) fun X e1 e2 => ?_
    refine wpAny_pyNext_list_item hit hL (by simpa using e1) fun h' z1 z2 => hQ h' s.toks _ ⟨fun b o hb e => (z2.2 b hb).trans e, let ⟨o, e, _⟩ := z1; ⟨o, e⟩⟩ ⟨z1, X, rfl, e2⟩
  ·exact nsE hi
 | tup l =>
  unfold itemAt at hi
  dsimp only at hi
  split at hi
  ·rename_i xs q
   obtain ⟨Vs, a, b, d⟩ := inv.rel.obj l _ q
   have hL : s.heap.IsTuple (β l) Vs.toArray := ⟨_, a, rfl, _, rfl⟩
   obtain rfl := Option.some.inj hi
   cases hx : xs[i]? with
   | none =>
    rw [hx] at hd hQ
    exact next_tup_end inv (hd rfl) (N.ne inv (hd rfl)) hit hL (by simpa using b.none hx) fun h' k => hQ h' s.toks none k rfl
   | some x =>
    rw [hx] at hd hQ
    refine xo1_2 (b.get hx) fun X e1 e2 => ?_
    refine wpAny_pyNext_tuple_item hit hL (by simpa using e1) fun h' z1 z2 => hQ h' s.toks _ ⟨fun b o hb e => (z2.2 b hb).trans e, let ⟨o, e, _⟩ := z1; ⟨o, e⟩⟩ ⟨z1, X, rfl, e2⟩
  ·exact nsE hi
 | rng k =>
  refine xo0_2 hit fun h1 h2 => ?_; clear hit
  unfold itemAt at hi
  dsimp only at hi
  obtain rfl := Option.some.inj hi
  split at hd
  ·rename_i q
   rw [if_pos q] at hQ
   refine wpAny_pyNext_range_item h1 (by omega) fun h' z1 z2 => hQ h' _ _ ⟨fun b o hb e => (z2.2 b hb).trans e, ⟨_, z1⟩⟩ ⟨⟨?_, by omega⟩, _, rfl, _, rfl⟩
   have e1 : (i : Int) + 1 = ((i + 1 : Nat) : Int) := by omega
   have e2 : k - (i : Int) - 1 = k - ((i + 1 : Nat) : Int) := by omega
   rw [e1, e2] at z1
   exact z1
  ·rename_i q
   rw [if_neg q] at hQ
   exact next_rng_end inv (hd rfl) h1 (by omega) fun h' kk => hQ h' s.toks none kk rfl
theorem bind_ok (B : Base W) {i : Nat} {v : AV} {V : Value} (hk : fx.kd.lookup i = some .local) (hv : VR W β st.next v V) : Ok W fx (bindName fx.env (W.nm i) V) β δ st (.ok () (st.put i v)) gU := fun nb s inv => by
 refine xo1_2 inv.loc fun m a1 a2 => ?_
 have hl : fx.env.kindOf (W.nm i) = some .local := (kindOf_nm B inv.ok i).trans hk
 have n1 : s.heap.Ns fx.env.locals m := inv.ok.locals ▸ a1
 refine wpAny_bindName (wpAny_storeName_local hl n1 (fun h' z1 z2 => ?_) ?_)
 ·rw [inv.ok.locals] at z1 z2
  exact .mk (inv.put B.inj a2 z2 z1 hv) trivial
 ·rw [inv.ok.kind]; rfl
noncomputable def T.wf (gl : Nat → Bool) (kd : List (Nat × NameKind)) : T → Bool
 | .nm i _ => kd.lookup i == some .local
 | .attr e _ _ => e.wf gl kd
 | .sub e i _ => e.wf gl kd && i.wf gl kd
 | .tup i _ j _ _ _ => kd.lookup i == some .local && kd.lookup j == some .local
theorem Ok.tail {α τ : Type} {t : Sem τ} {r : R α} {good : Good α τ} {vs : List Value} (a : Ok W fx t β δ st r good) : Ok W fx (t >>= fun x => PySem.release vs [] >>= fun _ => Pure.pure x) β δ st r good := fun nb s inv =>
 wpAny_bind (wpAny_mono (a nb s inv) (fun _ _ h => wpAny_bind (wpAny_release' (wpAny_pure h))) fun _ _ h => h)
theorem VRs.two {v u : AV} {Xs : List Value} (x : VRs W β n [v, u] Xs) : ∃ V U, Xs = [V, U] ∧ VR W β n v V ∧ VR W β n u U := by
 cases x with
 | cons a b => cases b with
  | cons c d => cases d; exact ⟨_, _, rfl, a, c⟩
theorem unpack2 {l : Nat} {x y : AV} {t1 t2 : Value → Sem Unit} {E : Value → Shared → Prop} {Q : Unit → Shared → Prop} (inv : Inv W fx β δ st s.heap) (hd : st.hd ≤ 1) (hl : st.heap l = some (.tup [x, y]))
  (hQ : ∀ X Y h', VR W β st.next x X → VR W β st.next y Y → (∀ b o, s.heap.get? b = some o → h'.get? b = some o) → wpAny (model W.prog W.w) fx.A (t1 X) (fun _ s₁ => wpAny (model W.prog W.w) fx.A (t2 Y) Q E s₁) E { s with heap := h' }) :
  wpAny (model W.prog W.w) fx.A (unpack (.ref (β l)) [(false, t1), (false, t2)]) Q E s := by
 obtain ⟨Vs, a, b, d⟩ := inv.rel.obj l _ hl
 refine xo2_3 b.two fun X Y e2_ hx hy => ?_; obtain rfl := e2_
 have hT : s.heap.IsTuple (β l) #[X, Y] := ⟨_, a, rfl, _, rfl⟩
 unfold unpack
 refine wpAny_bind (wpAny_holding ?_)
 show wpAny _ _ (unpackItems (.ref (β l)) 2 none) _ E s
 unfold unpackItems
 refine wpAny_bind ?_
 unfold notIterableAtAll
 refine wpAny_bind (wpAny_specialOf hT.typeIs F.slot_tuple_iter.lookup ?_)
 refine wpAny_pure ?_
 simp only [Bool.false_eq_true, if_false]
 have tne : β l ≠ s.heap.objs.size := Nat.ne_of_lt (Heap.lt_size a)
 have N := inv.newAt (a := s.heap.objs.size) size_free
 refine wpAny_bind (wpAny_holding (wpAny_pyIter_tuple hT ?_))
 have hT1 := hT.push ({ cls := .type "tuple_iterator", data := .fields #[.ref (β l), .int 0 0] } : Obj)
 refine wpAny_bind (wpAny_holding (wpAny_draw_tuple (i := 0) tne 2 _ _ ⟨_, Heap.get?_push_size _ rfl, rfl, rfl⟩ hT1 (by simp) fun h₁ z1 z2 => ?_))
 have kk : ∀ b o, s.heap.get? b = some o → h₁.get? b = some o := fun b o e => (z2.2 b fun q => by rw [q, size_free] at e; cases e).trans (Heap.get?_push_of_some _ e)
 show wpAny _ _ (holding [X, Y] (pyNext (.ref s.heap.objs.size)) >>= _) _ E _
 have hT2 : h₁.IsTuple (β l) #[X, Y] := ⟨_, kk _ _ a, rfl, _, rfl⟩
 refine wpAny_bind (wpAny_holding (next_tup_end (s := { s with heap := h₁ }) (inv.grow kk) hd (N.ne inv hd) z1 hT2 (by simp) fun h₂ k2 => ?_))
 refine wpAny_pure ?_
 have k3 : ∀ b o, s.heap.get? b = some o → h₂.get? b = some o := fun b o e => k2.1 b o (fun q => by rw [q, size_free] at e; cases e) (kk b o e)
 exact wpAny_bind (wpAny_holding (wpAny_mono (hQ X Y h₂ hx hy k3) (fun _ _ h => wpAny_bind (wpAny_holding (wpAny_mono h (fun _ _ h => wpAny_pure h) fun _ _ h => h))) fun _ _ h => h))
theorem okU {t : Sem Unit} {r : R Unit} (a : Ok W fx t β δ st (r.bnd fun _ s => .ok () s) gU) : Ok W fx t β δ st r gU := by
 have : r.bnd (fun _ s => .ok () s) = r := by cases r <;> rfl
 rw [this] at a; exact a
theorem tupR_inv {i j : Nat} {v : AV} {s : St} (nb : tupR i j v s ≠ .bad) : ∃ l x y, v = .loc l ∧ s.heap l = some (.tup [x, y]) ∧ s.hd ≤ 1 ∧ tupR i j v s = .ok () ((s.put i x).put j y) := by
 cases v with
 | loc l =>
  revert nb
  show atObj s l _ ≠ _ → ∃ _ _ _, _ ∧ _ ∧ _ ∧ atObj s l _ = _
  unfold atObj
  cases q : s.heap l with
  | none => exact fun nb => (nb rfl).elim
  | some o =>
   cases o with
   | tup xs =>
    match xs with
    | [x, y] =>
     show (if s.hd ≤ 1 then _ else _) ≠ _ → ∃ _ _ _, _ ∧ _ ∧ _ ∧ (if s.hd ≤ 1 then _ else _) = _
     by_cases h : s.hd ≤ 1
     ·exact fun _ => ⟨l, x, y, rfl, q, h, if_pos h⟩
     ·rw [if_neg h]; exact fun nb => (nb rfl).elim
    | [] => exact fun nb => (nb rfl).elim
    | [_] => exact fun nb => (nb rfl).elim
    | _ :: _ :: _ :: _ => exact fun nb => (nb rfl).elim
   | _ => exact fun nb => (nb rfl).elim
 | _ => exact (nb rfl).elim
theorem Raised.not_ok {α : Type} {v : α} {st₁ : St} {x : Value} {s' : Shared} : ¬ Raised W fx β δ st s (.ok v st₁) x s' := by
 rintro ⟨_, _, _, _, _, _, e, _⟩; exact absurd e nofun
theorem asgT_ok (Z : Ctx2 W fx C) {t : T} (hw : t.wf W.gl fx.kd = true) {v : AV} {V : Value} (hv : VR W β st.next v V) : Ok W fx (assign (t.dec W.nm W.sc) fx.env V) β δ st (asgT W.g C t v st) gU := by
 cases t with
 | nm i p =>
  unfold T.dec asgT
  rw [arm_assign_Name]
  exact .stand (bind_ok Z.B (eq_of_beq hw) hv)
 | attr e a p =>
  unfold T.wf at hw
  unfold T.dec asgT
  rw [arm_assign_Attribute]
  refine .bind (.hold (evalE_ok Z e hw β δ st)) fun o st' β' δ' O _ g n1 s1 => .stand ?_
  exact .bind (k := fun _ => PySem.release [V, O] []) (f := fun _ s => .ok () s) (good' := gU) (.hold (setA_ok Z.B Z.K Z.CO g (hv.mono n1 fun l hl => (s1 l hl).1))) (fun _ st₂ β₂ δ₂ _ _ _ _ _ => fun nb s inv => wpAny_release' (.now inv trivial)) |> okU
 | sub e i p =>
  unfold T.wf at hw
  refine xo0_2 (Bool.and_eq_true_iff.mp hw) fun h1 h2 => ?_
  unfold T.dec asgT
  rw [arm_assign_Subscript]
  refine .bind (.hold (evalE_ok Z e h1 β δ st)) fun o st' β' δ' O _ g n1 s1 => .bind (.hold (evalE_ok Z i h2 β' δ' st')) fun w st₂ β₂ δ₂ I _ g2 n2 s2 => .stand ?_
  exact .bind (f := fun _ s => .ok () s) (good' := gU) (.hold (setI_ok (g.mono n2 fun l hl => (s2 l hl).1) g2 (hv.mono (Nat.le_trans n1 n2) fun l hl => (s2 l (Nat.lt_of_lt_of_le hl n1)).1.trans (s1 l hl).1))) (fun _ st₂ β₂ δ₂ _ _ _ _ _ => fun nb s inv => wpAny_release' (.now inv trivial)) |> okU
 | tup i p j q k r =>
  unfold T.wf at hw
  refine xo0_2 (Bool.and_eq_true_iff.mp hw) fun h1 h2 => ?_
  unfold T.dec asgT
  rw [arm_assign_Tuple]
  refine .stand (show Ok W fx _ β δ st (tupR i j v st) gU from fun nb s inv => ?_)
  refine xo3_4 (tupR_inv nb) fun l x y e3_ qq hd e => ?_; obtain rfl := e3_
  rw [e]
  refine xo0_2 hv fun hl e1_ => ?_; clear hv; obtain rfl := e1_
  refine unpack2 inv hd qq fun X Y h' hx hy kk => ?_
  have inv' : Inv W fx β δ st ({ s with heap := h' } : Shared).heap := inv.grow kk
  refine wpAny_mono ((Ok.stand (p := p) (bind_ok (fx := fx) (β := β) (δ := δ) (st := st) Z.B (eq_of_beq h1) hx)) (by nofun) { s with heap := h' } inv') (fun _ s₁ h₁ => ?_) fun e s' h => absurd h Raised.not_ok
  obtain ⟨_, st₁, β₁, δ₁, e1, _, i1, o1, q1⟩ := h₁
  cases e1
  exact wpAny_mono ((Ok.stand (p := q) (bind_ok (fx := fx) (β := β₁) (δ := δ₁) (st := st.put i x) Z.B (eq_of_beq h2) (hy.mono o1.next fun l hl => (o1.same l hl).1))) (by nofun) s₁ i1) (fun _ s₂ h₂ => After.trans (.grow kk) rfl (After.trans o1 q1 h₂)) fun e s' h => absurd h Raised.not_ok
end
end Mine
end
section
open PySem PySem.W PyProof.Rows PySem.Calls PySem.SeqAt
namespace Mine
section
variable {W : Wd} {fx : Fx} {β δ β' δ' : Nat → Addr} {st st' : St} {s : Shared} {h h' : Heap} {n : Nat} {C : Nat → List AV → St → R AV} {A : Around}
theorem RaisedT.came {α : Type} {r : R α} {e : Value} {s' : Shared} {E : Value → Shared → Prop} (inv : Inv W fx β δ st s.heap) (p : RaisedT W fx β δ st s r e s') (q : ∀ s'', RaisedT W fx β δ st s r e s'' → E e s'') : cameBackBy (model W.prog W.w) fx.A fx.env E e s' := by
 unfold cameBackBy
 obtain ⟨c, cl, st₁, β₁, δ₁, ad, e1, e2, e3, e4, e5, e6⟩ := p.1
 refine xo3_3 (p.2 ad e2) fun oe vs T t1 t2 t3 => ?_
 subst e2
 refine wpAny_bind (wpAny_field t1 t2 t3 ?_)
 rw [if_neg (by simp)]
 exact RaisedT.flight inv p _ fun s'' z => q s'' z
theorem Raised.noted {α : Type} {r : R α} {e : Value} {s' : Shared} {E : Value → Shared → Prop} (inv : Inv W fx β δ st s.heap) (p : Raised W fx β δ st s r e s') (q : ∀ s'', RaisedT W fx β δ st s r e s'' → E e s'') : notedBy (model W.prog W.w) fx.A fx.env E e s' :=
 Raised.note inv p fun s'' z => q s'' z
theorem Raised.back {α : Type} {r : R α} {e : Value} {s' : Shared} (inv : Inv W fx β δ st s.heap) (p : Raised W fx β δ st s r e s') : notedBy (model W.prog W.w) fx.A fx.env (cameBackBy (model W.prog W.w) fx.A fx.env (Raised W fx β δ st s r)) e s' :=
 p.noted inv fun _ z => z.came inv fun _ z => z.1
noncomputable def FEnds (W : Wd) (fx : Fx) (β δ : Nat → Addr) (st : St) (s : Shared) (r : R Fl) : Result → Shared → Prop := fun x s' => match x with
 | .ok f => After W fx β δ st s r (gF W) f s'
 | .error e => cameBackBy (model W.prog W.w) fx.A fx.env (Raised W fx β δ st s r) e s'
theorem FlR.next {v : Fl} {f : Flow} (x : FlR W β n v f) : (v = .next ∧ f = .next) ∨ (v = .brk ∧ f = .brk) ∨ (v = .cont ∧ f = .cont) ∨ ∃ a V, v = .ret a ∧ f = .ret V ∧ VR W β n a V := by
 cases v <;> cases f <;> first | exact .inl ⟨rfl, rfl⟩ | exact .inr (.inl ⟨rfl, rfl⟩) | exact .inr (.inr (.inl ⟨rfl, rfl⟩)) | exact .inr (.inr (.inr ⟨_, _, rfl, rfl, x⟩)) | exact x.elim
structure On (W : Wd) (fx : Fx) (β δ : Nat → Addr) (st : St) (s : Shared) (r : R Fl) (now : St → R Fl) (st₁ : St) (β₁ δ₁ : Nat → Addr) (s₁ : Shared) : Prop where
 inv : Inv W fx β₁ δ₁ st₁ s₁.heap
 go : Go fx β δ st s.heap β₁ δ₁ st₁ s₁.heap
 same : s₁ = { s with heap := s₁.heap, toks := s₁.toks }
 to : now st₁ = r
 nb : r ≠ .bad
section
variable {r : R Fl} {now : St → R Fl} {st₁ : St} {β₁ δ₁ : Nat → Addr} {s₁ : Shared}
theorem On.piece {α τ : Type} {t : Sem τ} {q : R α} {k : α → St → R Fl} {good : Good α τ} {Q : τ → Shared → Prop} {E : Value → Shared → Prop} (o : On W fx β δ st s r now st₁ β₁ δ₁ s₁) (a : Ok W fx t β₁ δ₁ st₁ q good) (e : now st₁ = q.bnd k) (hE : ∀ x s', Raised W fx β δ st s r x s' → E x s')
  (b : ∀ v st₂ β₂ δ₂ x s₂, q = .ok v st₂ → good β₂ δ₂ st₂ v x → On W fx β δ st s r (k v) st₂ β₂ δ₂ s₂ → Go fx β₁ δ₁ st₁ s₁.heap β₂ δ₂ st₂ s₂.heap → Q x s₂) : wpAny (model W.prog W.w) fx.A t Q E s₁ := by
 have e' : q.bnd k = r := e.symm.trans o.to
 have nb := o.nb
 rw [← e'] at nb
 refine wpAny_mono (a.seq nb o.inv fun v st₂ β₂ δ₂ x s₂ e2 g2 i2 o2 q2 => b v st₂ β₂ δ₂ x s₂ e2 g2 ⟨i2, o.go.trans o2, same_trans o.same q2, by rw [e2] at e'; exact e', o.nb⟩ o2) (fun _ _ h => h) fun x s' h => hE x s' ?_
 rw [← e']
 exact Raised.trans o.go o.same h
theorem On.done {v : Fl} {f : Flow} (o : On W fx β δ st s r now st₁ β₁ δ₁ s₁) (e : now st₁ = .ok v st₁) (g : FlR W β₁ st₁.next v f) : After W fx β δ st s r (gF W) f s₁ := ⟨v, st₁, β₁, δ₁, o.to.symm.trans e, g, o.inv, o.go, o.same⟩
theorem On.to' {now' : St → R Fl} (o : On W fx β δ st s r now st₁ β₁ δ₁ s₁) (e : now' st₁ = now st₁) : On W fx β δ st s r now' st₁ β₁ δ₁ s₁ := ⟨o.inv, o.go, o.same, e.trans o.to, o.nb⟩
end
theorem while_ok {t : Expr} {b : List Stmt} {test : St → R Bool} {body : St → R Fl} (ht : ∀ β δ st, Ok W fx (isTrue t fx.env (eval t fx.env)) β δ st (test st) gB) (hb : ∀ β δ st, Ok W fx (PySem.execs b fx.env) β δ st (body st) (gF W)) (k : Nat) (p : Pos) :
  Ok W fx (PySem.exec (.While t b [] p) fx.env) β δ st (whileN test body k st) (gF W) := fun nb s inv => by
 refine wpAny_While ?_
 show codeAny _ _ _ (FEnds W fx β δ st s (whileN test body k st)) s
 have o0 : On W fx β δ st s (whileN test body k st) (whileN test body k) st β δ s := ⟨inv, .refl rfl rfl, rfl, rfl, nb⟩
 revert o0
 generalize whileN test body k st = r
 intro o0
 refine codeAny_whileLoop (fun m s' => ∃ st₁ β₁ δ₁, On W fx β δ st s r (whileN test body m) st₁ β₁ δ₁ s') ?_ k ⟨st, β, δ, o0⟩
 rintro m s' ⟨st₁, β₁, δ₁, o⟩
 cases m with
 | zero => exact (o.nb o.to.symm).elim
 | succ m =>
  have hE : ∀ x s', Raised W fx β δ st s r x s' → notedBy (model W.prog W.w) fx.A fx.env (cameBackBy (model W.prog W.w) fx.A fx.env (Raised W fx β δ st s r)) x s' := fun x s' h => h.back inv
  refine o.piece (ht β₁ δ₁ st₁) rfl hE fun v st₂ β₂ δ₂ x s₂ e2 g2 o2 _ => ?_
  cases g2
  cases v with
  | true =>
   refine o2.piece (hb β₂ δ₂ st₂) rfl hE fun f st₃ β₃ δ₃ y s₃ e3 g3 o3 _ => ?_
   rcases FlR.next g3 with ⟨rfl, rfl⟩ | ⟨rfl, rfl⟩ | ⟨rfl, rfl⟩ | ⟨a, V, rfl, rfl, g⟩
   ·exact ⟨m, Nat.lt_succ_self _, st₃, β₃, δ₃, o3⟩
   ·exact o3.done rfl trivial
   ·exact ⟨m, Nat.lt_succ_self _, st₃, β₃, δ₃, o3⟩
   ·exact o3.done rfl g
  | false => exact wpAny_execs_nil (o2.done rfl trivial)
theorem letGo_any {it : It} {a : Addr} {i : Nat} {U : Value} {es : List Expr} {k : Nat} {p : Pos} {E : Value → Shared → Prop} {Q : Unit → Shared → Prop} (hit : IterAt β s.heap a it i) (h : Q () s) : wpAny (model W.prog W.w) A (letOwnedTupleGo (.Tuple es k p) (.ref a) U) Q E s := by
 have ob : ∃ o n vs, s.heap.get? a = some o ∧ o.cls = .type n ∧ o.data = .fields vs ∧ (["enumerate", "zip", "dict_itemiterator", "dict_reverseitemiterator", "odict_iterator", "itertools.zip_longest", "itertools.pairwise"].contains n) = false := by
  cases it with
  | list l => obtain ⟨o, e1, e2, e3⟩ := hit; exact ⟨o, _, _, e1, e2, e3, by decide⟩
  | tup l => obtain ⟨o, e1, e2, e3⟩ := hit; exact ⟨o, _, _, e1, e2, e3, by decide⟩
  | rng k => exact ⟨_, _, _, hit.1, rfl, rfl, by decide⟩
 refine xo3_4 ob fun o n vs e1 e2 e3 e4 => ?_; clear ob
 unfold letOwnedTupleGo
 dsimp only
 cases U <;> try exact wpAny_pure h
 dsimp only
 refine wpAny_bind (wpAny_load e1 ?_)
 rw [e2, e3]
 dsimp only
 rw [e4]
 exact wpAny_pure h
structure ItAt (W : Wd) (fx : Fx) (a : Addr) (it : It) (i : Nat) (st : St) (β δ : Nat → Addr) (s : Shared) : Prop where
 at_ : IterAt β s.heap a it i
 ok : ItOk it st.next
 new : NewAt W fx β δ st a
theorem ItAt.go {a : Addr} {it : It} {i : Nat} {s' : Shared} (x : ItAt W fx a it i st β δ s) (o : Go fx β δ st s.heap β' δ' st' s'.heap) : ItAt W fx a it i st' β' δ' s' := by
 refine xo1_1 x.at_.live fun y e => ?_
 refine ⟨x.at_.same (n := st.next) x.ok (fun o' e => o.keep _ o' e x.new.own x.new.frs) fun l hl => (o.same l hl).1, ?_, x.new.go o (by rw [e]; nofun)⟩
 have := o.next
 have h := x.ok
 cases it <;> first | exact Nat.lt_of_lt_of_le h this | trivial
theorem forN_none {it : It} {asg : AV → St → R Unit} {body : St → R Fl} {m i : Nat} {r : R Fl} (w : forN it asg body (m + 1) i st = r) (nb : r ≠ .bad) : ∃ x, itemAt it i st = some x ∧ (x = none → st.hd ≤ 1 ∧ forN it asg body (m + 1) i st = .ok .next st) ∧
  ∀ y, x = some y → forN it asg body (m + 1) i st = (asg y st).bnd fun _ s => (body s).bnd fun f s => (match f with | .next => forN it asg body m (i + 1) s | .cont => forN it asg body m (i + 1) s | .brk => .ok .next s | .ret v => .ok (.ret v) s) := by
 subst w
 rw [forN.eq_2] at nb ⊢
 cases q : itemAt it i st with
 | none => rw [q] at nb; exact (nb rfl).elim
 | some x =>
  rw [q] at nb
  cases x with
  | none =>
   refine ⟨none, rfl, fun _ => ?_, nofun⟩
   by_cases h : st.hd ≤ 1
   ·exact ⟨h, if_pos h⟩
   ·exact (nb (if_neg h)).elim
  | some y => exact ⟨some y, rfl, nofun, fun z e => by cases e; rfl⟩
theorem for_ok (Z : Ctx2 W fx C) {T : Expr} {v : AV} {V : Value} {it : It} {asg : AV → St → R Unit} {b : List Stmt} {body : St → R Fl} (hv : VR W β st.next v V) (hi : iterOf v st = some it)
  (ha : ∀ β δ st x X, VR W β st.next x X → Ok W fx (assign T fx.env X) β δ st (asg x st) gU) (hb : ∀ β δ st, Ok W fx (PySem.execs b fx.env) β δ st (body st) (gF W)) (k : Nat) {p : Pos}
  (hgo : ∀ it v, letOwnedTupleGo T (.ref it) v = Pure.pure () ∨ ∃ es q r, T = .Tuple es q r) :
  Ok W fx (standAt p >>= fun _ => holding [V] (pyIter V) >>= fun i => runOwn (.forLoop T i b [] fx.env) fx.env) β δ st (forN it asg body k 0 st) (gF W) := fun nb s inv => by
 refine wpAny_bind (wpAny_standAt (wpAny_bind (wpAny_holding (pyIter_ok inv hv hi fun ob i0 io => ?_))))
 refine wpAny_runOwn ?_
 rw [Around.mark_none]
 show codeAny _ _ _ (FEnds W fx β δ st s (forN it asg body k 0 st)) _
 have pk := push_keeps (h := s.heap) ob
 have o0 : On W fx β δ st s (forN it asg body k 0 st) (forN it asg body k 0) st β δ { s with heap := s.heap.push ob } := ⟨inv.grow pk, .grow pk, rfl, rfl, nb⟩
 have j0 : ItAt W fx s.heap.objs.size it 0 st β δ { s with heap := s.heap.push ob } := ⟨i0, io, inv.newAt size_free⟩
 have sf : s.heap.get? s.heap.objs.size = none := size_free
 revert o0
 generalize forN it asg body k 0 st = r
 generalize s.heap.objs.size = a at *
 intro o0
 clear i0 io
 refine codeAny_forLoop_any (fun m s' => ∃ i st₁ β₁ δ₁, On W fx β δ st s r (forN it asg body m i) st₁ β₁ δ₁ s' ∧ ItAt W fx a it i st₁ β₁ δ₁ s') ?_ k ⟨0, st, β, δ, o0, j0⟩
 rintro m s' ⟨i, st₁, β₁, δ₁, o, j⟩
 cases m with
 | zero => exact (o.nb o.to.symm).elim
 | succ m =>
  have hE : ∀ x s', Raised W fx β δ st s r x s' → notedBy (model W.prog W.w) fx.A fx.env (cameBackBy (model W.prog W.w) fx.A fx.env (Raised W fx β δ st s r)) x s' := fun x s' h => h.back inv
  refine xo1_3 (forN_none o.to o.nb) fun x hr hn hs => ?_
  refine next_ok o.inv j.new j.at_ hr (fun e => (hn e).1) fun h' tk X kk hX => ?_
  have o2 : On W fx β δ st s r (forN it asg body (m + 1) i) st₁ β₁ δ₁ { s' with heap := h', toks := tk } := ⟨(o.inv.atFree j.new kk).1, o.go.past sf j.new kk, by rw [o.same], o.to, o.nb⟩
  clear hr
  cases x with
  | none =>
   cases hX
   exact wpAny_execs_nil (o2.done (hn rfl).2 trivial)
  | some x =>
   refine xm_aeaa hX fun it2 U e2_ gx => ?_; clear hX; obtain rfl := e2_
   have j2 : ItAt W fx a it (i + 1) st₁ β₁ δ₁ { s' with heap := h', toks := tk } := ⟨it2, j.ok, j.new⟩
   have go : wpAny (model W.prog W.w) fx.A (letOwnedTupleGo T (.ref a) U) (fun _ s'' => s'' = ({ s' with heap := h', toks := tk } : Shared)) (fun _ _ => False) { s' with heap := h', toks := tk } := by
    rcases hgo a U with e | ⟨es, q', r', e⟩
    ·exact wpAny_of_eq e rfl
    ·subst e; exact letGo_any it2 rfl
   refine wpAny_mono go (fun _ s'' e => ?_) fun _ _ h => h.elim
   subst e
   refine o2.piece (ha β₁ δ₁ st₁ x U gx) (hs x rfl) hE fun _ st₂ β₂ δ₂ _ s₂ e2 _ o3 g3 => ?_
   have j3 := j2.go g3
   refine o3.piece (hb β₂ δ₂ st₂) rfl hE fun f st₃ β₃ δ₃ y s₃ e3 g4 o4 g5 => ?_
   have j4 := j3.go g5
   rcases FlR.next g4 with ⟨rfl, rfl⟩ | ⟨rfl, rfl⟩ | ⟨rfl, rfl⟩ | ⟨a, V, rfl, rfl, g⟩
   ·exact ⟨m, Nat.lt_succ_self _, i + 1, st₃, β₃, δ₃, o4, j4⟩
   ·exact o4.done rfl trivial
   ·exact ⟨m, Nat.lt_succ_self _, i + 1, st₃, β₃, δ₃, o4, j4⟩
   ·exact o4.done rfl g
end
end Mine
end
section
open PySem PySem.W PyProof.Rows PySem.Calls PySem.SeqAt
namespace Mine
noncomputable def raiseTail (xv : Value) : Sem Flow := do
 let e ← holding [] (excFromValue xv "exceptions must derive from BaseException")
 let e ← if ← isType xv then holding [e] (raisedFor xv e) else raisedInstance e
 setFlight e none
 raiseNew e
theorem raiseStmt_eq (env : Env) (x : Sem Value) : raiseStmt env (some x) none = x >>= raiseTail := rfl
abbrev excObj (cls : Value) (t : Addr) : Obj := { cls := cls, data := .fields #[.ref t, .none, .none, .none, .bool false, .none] }
structure ExcOk (W : Wd) (c : Nat) : Prop where
 keep : ∀ (M : Model) (h : Heap), W.hb.StaysIn h → ∃ k, (k = Keeper.frame ∨ k = Keeper.machine ∨ k = Keeper.boundFrame) ∧ Looks M h (keeperOf (W.gv c)) k
 make : ∀ (A : Around) (E : Value → Shared → Prop) (s : Shared) (V : Value) (Q : Value → Shared → Prop), W.hb.StaysIn s.heap →
  (∀ h' e t, (∀ b o, s.heap.get? b = some o → h'.get? b = some o) → s.heap.get? e = none → h'.get? e = some (excObj (W.gv c) t) → Q (.ref e) { s with heap := h' }) → wpAny (model W.prog W.w) A (call (W.gv c) [V]) Q E s
 raise : ∀ (A : Around) (E : Value → Shared → Prop) (s : Shared) (e t : Addr) (Q : Flow → Shared → Prop), W.hb.StaysIn s.heap → s.heap.get? e = some (excObj (W.gv c) t) → wpAny (model W.prog W.w) A (raiseNew (.ref e) : Sem Flow) Q E s → wpAny (model W.prog W.w) A (raiseTail (.ref e)) Q E s
noncomputable def Exms (W : Wd) : Prop := ∀ c d, c ∈ W.g.excs → d ∈ W.g.excs → ∀ (M : Model) (A : Around) (E : Value → Shared → Prop) (s : Shared) (e : Addr) (o : Obj) (Q : Bool → Shared → Prop), W.hb.StaysIn s.heap → s.heap.get? e = some o → o.cls = W.gv c → (∃ vs, o.data = .fields vs) → Q (decide (c = d)) s → wpAny M A (excMatches (.ref e) (W.gv d)) Q E s
section
variable {W : Wd} {fx : Fx} {β δ β' δ' : Nat → Addr} {st st' : St} {s : Shared} {h h' : Heap} {n : Nat} {C : Nat → List AV → St → R AV} {A : Around}
theorem R.bnd_pure {α : Type} (r : R α) : (r.bnd fun v s => .ok v s) = r := by cases r <;> rfl
theorem raiseAs_hd {c : Nat} {st : St} (nb : (raiseAs c st : R Fl) ≠ .bad) : st.hd ≤ 1 ∧ (raiseAs c st : R Fl) = .ex c (decide (st.hd = 0)) st := by
 revert nb
 show (match st.hd with | 0 => R.ex c true st | 1 => .ex c false st | _ => .bad : R Fl) ≠ _ → _ ∧ (match st.hd with | 0 => R.ex c true st | 1 => .ex c false st | _ => .bad : R Fl) = _
 cases st.hd with
 | zero => exact fun _ => ⟨Nat.zero_le _, rfl⟩
 | succ k => cases k with
  | zero => exact fun _ => ⟨Nat.le_refl _, rfl⟩
  | succ k => exact fun nb => (nb rfl).elim
theorem one_ok (Z : Ctx2 W fx C) {e : E} (he : e.wf W.gl fx.kd = true) : Ok W fx (spliced (trees W fx.env (.cons e .nil))) β δ st (evalE W.g C e st) fun _ _ _ _ Vs => ∃ V : Value, Vs = [V] := by
 show Ok W fx (spliced ((false, eval (e.dec W.nm W.sc) fx.env) :: [])) β δ st _ _
 rw [spliced, ← R.bnd_pure (evalE W.g C e st)]
 refine .bind (evalE_ok Z e he β δ st) fun v st' β' δ' x _ g _ _ => ?_
 show Ok W fx (pure [x] >>= fun here => holding here (spliced []) >>= fun vs => pure (here ++ vs)) _ _ _ _ _
 exact .pureBind (.step [] (fun s E Q _ h => wpAny_holding (wpAny_pure h)) (.pure ⟨x, rfl⟩))
theorem make_raise {c : Nat} (X : ExcOk W c) {V : Value} {EF E : Value → Shared → Prop} {QF : Flow → Shared → Prop} {Q : Value → Shared → Prop} (inv : Inv W fx β δ st s.heap) (hd : st.hd ≤ 1) (hE : ∀ x s', Raised W fx β δ st s (.ex c (decide (st.hd = 0)) st : R Fl) x s' → EF x s')
  (hQ : ∀ v s', wpAny (model W.prog W.w) fx.A (raiseTail v : Sem Flow) QF EF s' → Q v s') : wpAny (model W.prog W.w) fx.A (call (W.gv c) [V]) Q E s := by
 refine X.make _ _ _ _ _ inv.stays fun h' ad t kk hn ho => ?_
 refine hQ _ _ (X.raise _ _ _ ad t _ (fun b o eo => kk b o (inv.stays b o eo)) ho ?_)
 refine raiseNew_any (fx := fx) (hd := st.hd) rfl ((inv.heldOk hd).keep fun e o _ eo => kk e o eo) ((inv.newAt hn).ne inv hd) ho rfl (by simp) fun h'' k2 hx => ?_
 refine xo2_6 hx fun oe us x1 x2 x3 x4 x5 x6 => ?_; clear hx
 have kf : ∀ b o, s.heap.get? b = some o → h''.get? b = some o := fun b o eo => k2 b o (fun q => by rw [q, hn] at eo; cases eo) (kk b o eo)
 exact hE _ _ ⟨c, _, st, β, δ, ad, rfl, rfl, ⟨hn, inv.free_new _ hn, oe, us, x1, x2, x3, by rw [x4]; simp, fun w => by rw [x6 (of_decide_eq_true w)]; rfl, .inl (by rw [x5]; rfl)⟩, inv.grow kf, .grow kf, rfl⟩
theorem raise_ok (Z : Ctx2 W fx C) {c : Nat} (X : ExcOk W c) {np cp p : Pos} {e : E} (hw : (E.gv c np).wf W.gl fx.kd = true) (he : e.wf W.gl fx.kd = true) :
  Ok W fx (PySem.exec (.Raise (some (.Call (.Name (W.nm c) np) [e.dec W.nm W.sc] [] cp)) none p) fx.env) β δ st ((evalE W.g C e st).bnd fun _ s => (raiseAs c s : R Fl)) (gF W) := fun nb s inv => by
 rw [arm_exec_Raise]
 refine wpAny_bind (wpAny_standAt ?_)
 show wpAny _ _ (raiseStmt fx.env (some (eval (.Call (.Name (W.nm c) np) [e.dec W.nm W.sc] [] cp) fx.env >>= fun v => standAt p >>= fun _ => Pure.pure v)) none) _ _ s
 rw [raiseStmt_eq, arm_eval_Call_Name', show backTo cp (starEach [e.dec W.nm W.sc] fx.env) = trees W fx.env (.cons e .nil) by rw [← backTo_trees W fx.env cp, ← starEach_dec]; rfl]
 refine wpAny_bind (wpAny_bind (wpAny_bind (gv_at Z.B hw inv ?_)))
 refine callWith_of (P := fun h => W.hb.StaysIn h) (by rw [trees_plain]; rfl) (fun h x => X.keep _ h x) (evalArgs_any (ks := .nil) (p := cp) ?_)
 refine (one_ok Z he).seq nb inv fun v st₂ β₂ δ₂ Vs s₂ e2 g2 i2 o2 q2 => ?_
 rw [e2, R.bnd_ok] at nb ⊢
 refine xo0_2 (raiseAs_hd nb) fun hd er => ?_
 rw [er]
 refine xo1_1 g2 fun V e1_ => ?_; clear g2; obtain rfl := e1_
 refine wpAny_pure ⟨i2.stays, ?_⟩
 exact make_raise X i2 hd (fun _ _ h => Raised.trans o2 q2 h) fun v s' h => wpAny_bind (wpAny_standAt (wpAny_pure h))
noncomputable def Fx.mark (fx : Fx) (e : Addr) : Fx := { fx with A := fx.A.mark (some (.ref e)) }
theorem Inv.mark {e : Addr} {cls : Value} {cl : Bool} {h₀ : Heap} (inv : Inv W fx β δ st h) (x : ExcSt (Free fx β δ st.next) h e cls cl h₀) : Inv W (fx.mark e) β δ { st with hd := if cl then 1 else 2 } h where
 ok := ⟨inv.ok.frames, inv.ok.frame, inv.ok.locals, inv.ok.kind, inv.ok.above, inv.ok.names, inv.ok.globals, inv.ok.builtins⟩
 rel := ⟨inv.rel.some_lt, inv.rel.lt_some, inv.rel.obj, inv.rel.bb, inv.rel.dd, inv.rel.bd, inv.rel.base, inv.rel.live⟩
 loc := inv.loc
 stays := inv.stays
 ff := inv.ff
 apart := inv.apart
 basefr := inv.basefr
 hd := by
  refine xo2_6 x.obj fun oe vs a1 a2 a3 a4 a5 _ => ?_
  cases cl with
  | true => exact ⟨e, rfl, ⟨oe, vs, a1, a3, a4, a5 rfl⟩, x.free⟩
  | false => exact ⟨e, rfl⟩
theorem Go.reHd {n : Nat} (g : Go fx β δ st h β' δ' st' h') : Go fx β δ { st with hd := n } h β' δ' { st' with hd := n } h' := ⟨g.next, g.same, g.new, g.keep, g.frames, rfl, g.live⟩
theorem Go.unmark {e : Addr} (g : Go (fx.mark e) β δ st h β' δ' st' h') : Go fx β δ st h β' δ' st' h' := ⟨g.next, g.same, g.new, g.keep, g.frames, g.hd, g.live⟩
theorem Inv.unmark {e : Addr} (i : Inv W (fx.mark e) β' δ' st' h') (inv : Inv W fx β δ st h) (g : Go fx β δ st h β' δ' { st' with hd := st.hd } h') : Inv W fx β' δ' { st' with hd := st.hd } h' where
 ok := inv.ok
 rel := ⟨i.rel.some_lt, i.rel.lt_some, i.rel.obj, i.rel.bb, i.rel.dd, i.rel.bd, i.rel.base, i.rel.live⟩
 loc := i.loc
 stays := i.stays
 ff := i.ff
 apart := i.apart
 basefr := i.basefr
 hd := by
  have z := inv.hd
  show (match st.hd with | 0 => _ | 1 => _ | _ => _)
  revert z
  cases st.hd with
  | zero => exact id
  | succ k' => cases k' with
   | zero =>
    rintro ⟨e', a1, ⟨oe, vs, b, c⟩, d⟩
    exact ⟨e', a1, ⟨oe, vs, g.keep e' oe b d.1 d.2, c⟩, fun q => d.1 (g.own_old (by rw [b]; nofun) q), d.2⟩
   | succ k'' => exact id
theorem After.unmark {α τ : Type} {e : Addr} {r : R α} {good : Good α τ} {x : τ} {st₀ : St} {s₀ s' : Shared} {β₀ δ₀ : Nat → Addr} {n : Nat} (hg : ∀ β δ st v x, good β δ st v x → good β δ { st with hd := n } v x) (hn : n = st₀.hd) (inv : Inv W fx β₀ δ₀ st₀ s₀.heap) (g0 : Go fx β₀ δ₀ st₀ s₀.heap β δ { st with hd := st₀.hd } s.heap) (q0 : s = { s₀ with heap := s.heap, toks := s.toks })
  (a : After W (fx.mark e) β δ st s r good x s') : After W fx β₀ δ₀ st₀ s₀ (r.reHd n) good x s' := by
 subst hn
 obtain ⟨v, st', β', δ', e1, e2, e3, e4, e5⟩ := a
 have g := g0.trans (e4.unmark.reHd (n := st₀.hd))
 exact ⟨v, { st' with hd := st₀.hd }, β', δ', by rw [e1]; rfl, hg _ _ _ _ _ e2, e3.unmark inv g, g, same_trans q0 e5⟩
theorem Raised.unmark {α : Type} {e : Addr} {r : R α} {x : Value} {st₀ : St} {s₀ s' : Shared} {β₀ δ₀ : Nat → Addr} (inv : Inv W fx β₀ δ₀ st₀ s₀.heap) (g0 : Go fx β₀ δ₀ st₀ s₀.heap β δ { st with hd := st₀.hd } s.heap) (q0 : s = { s₀ with heap := s.heap, toks := s.toks })
  (a : Raised W (fx.mark e) β δ st s r x s') : Raised W fx β₀ δ₀ st₀ s₀ (r.reHd st₀.hd) x s' := by
 obtain ⟨c, cl, st', β', δ', ad, e1, e2, e3, e4, e5, e6⟩ := a
 have g := g0.trans (e5.unmark.reHd (n := st₀.hd))
 exact ⟨c, cl, { st' with hd := st₀.hd }, β', δ', ad, by rw [e1]; rfl, e2, e3.mono g0.none fun _ z => z, e4.unmark inv g, g, same_trans q0 e6⟩
theorem gF_reHd {n : Nat} : ∀ (β δ : Nat → Addr) (st : St) (v : Fl) (x : Flow), gF W β δ st v x → gF W β δ { st with hd := n } v x := fun _ _ _ _ _ z => z
end
end Mine
end
section
open PySem PySem.W PyProof.Rows PySem.Calls PySem.SeqAt
namespace Mine
section
variable {W : Wd} {fx : Fx} {β δ β' δ' : Nat → Addr} {st st' : St} {s : Shared} {h h' : Heap} {n : Nat} {C : Nat → List AV → St → R AV} {A : Around}
structure Ctxs (W : Wd) (fx : Fx) (C : Nat → List AV → St → R AV) : Prop where
 z : ∀ hd, Ctx2 W { fx with A := { fx.A with handled := hd } } C
 xm : Exms W
 xo : ∀ c, c ∈ W.g.rais → ExcOk W c
theorem Ctxs.here (Z : Ctxs W fx C) : Ctx2 W fx C := Z.z fx.A.handled
theorem Ctxs.mark (Z : Ctxs W fx C) (e : Addr) : Ctxs W (fx.mark e) C := ⟨Z.z, Z.xm, Z.xo⟩
noncomputable def Ss.isNil : Ss → Bool
 | .nil => true
 | _ => false
section
variable (gl : Nat → Bool) (g : Sig) (kd : List (Nat × NameKind))
mutual
noncomputable def S.wf : S → Bool
 | .expr e _ => e.wf gl kd
 | .asg t e _ => t.wf gl kd && e.wf gl kd && (match t, e with | .tup .., .tup .. => false | _, _ => true)
 | .aug i _ _ e _ => kd.lookup i == some .local && e.wf gl kd
 | .ife t a b _ => t.wf gl kd && a.wf && b.wf
 | .whl t b _ => t.wf gl kd && b.wf
 | .for t e b _ => t.wf gl kd && e.wf gl kd && b.wf && (match t with | .nm .. => true | .tup .. => true | _ => false)
 | .ret e _ => e.wf gl kd
 | .ret0 _ => true
 | .raise c np e _ _ => (E.gv c np).wf gl kd && e.wf gl kd && decide (c ∈ g.rais)
 | .try b hs _ => b.wf && hs.wf && (match hs with | .nil => false | _ => true)
 | .fin b f _ => b.wf && f.wf && !f.isNil
 | .assert e _ => e.wf gl kd
 | .cont _ => true
 | .pass _ => true
noncomputable def Ss.wf : Ss → Bool
 | .nil => true
 | .cons s r => s.wf && r.wf
noncomputable def Hs.wf : Hs → Bool
 | .nil => true
 | .cons c np b _ r => (E.gv c np).wf gl kd && b.wf && !b.isNil && r.wf
end
end
theorem RaisedT.flightM {e : Addr} {α : Type} {r : R α} {s' : Shared} {x : Value} {E : Value → Shared → Prop} {fl : Option Addr} {Q : Unit → Shared → Prop} (inv : Inv W fx β δ st s.heap) (p : RaisedT W fx β δ st s r x s') (q : ∀ s'', RaisedT W fx β δ st s r x s'' → Q () s'') :
  wpAny (model W.prog W.w) (fx.mark e).A (setFlight x fl) Q E s' := by
 obtain ⟨⟨c, cl, st₁, β₁, δ₁, e, e1, rfl, e3, e4, e5, e6⟩, tr⟩ := p
 refine setFlight_any (fx := fx.mark _) e3 fl (fun b z => z.2) fun h' t x' tr' => ?_
 have t' : Tch fx (Free fx β₁ δ₁ st₁.next) s.heap s'.heap h' := ⟨t.keep, t.live, t.frames⟩
 refine q _ ⟨⟨c, cl, st₁, β₁, δ₁, e, e1, rfl, x', e4.touch t' inv.stays fun q1 => ?_, e5.touch t' e4, by rw [e6]⟩, fun e' he => by cases he; exact tr' (tr e rfl)⟩
 exact fun e he => inv.hlow (e5.hd.symm.trans q1) e he
theorem RaisedT.pass {α β₀ : Type} {r : R α} {s' : Shared} {x : Value} {what : String} {E : Value → Shared → Prop} {Q : β₀ → Shared → Prop} (inv : Inv W fx β δ st s.heap) (p : RaisedT W fx β δ st s r x s') (q : ∀ s'', RaisedT W fx β δ st s r x s'' → E x s'') :
  wpAny (model W.prog W.w) fx.A (PySem.passOn what x fx.env : Sem β₀) Q E s' := by
 unfold PySem.passOn
 obtain ⟨c, cl, st₁, β₁, δ₁, ad, e1, e2, e3, e4, e5, e6⟩ := p.1
 refine xo3_3 (p.2 ad e2) fun oe vs T t1 t2 t3 => ?_
 subst e2
 refine wpAny_bind (wpAny_field t1 t2 t3 ?_)
 rw [if_neg (by simp)]
 exact wpAny_bind (RaisedT.flight inv p _ fun s'' z => wpAny_throw (q s'' z))
theorem suite_ok {c : Nat} {cl : Bool} {st₁ : St} {r0 : R Fl} {e : Addr} {s₁ : Shared} {b0 : Stmt} {bs : List Stmt} {body : St → R Fl} {E' : Value → Shared → Prop} {pos : Pos} (inv : Inv W fx β δ st s.heap) (hr : r0 = .ex c cl st₁) (p : RaisedT W fx β δ st s r0 (.ref e) s₁)
  (hb : ∀ β δ st, Ok W (fx.mark e) (PySem.execs (b0 :: bs) fx.env) β δ st (body st) (gF W)) (nb : (body { st₁ with hd := if cl then 1 else 2 }).reHd st.hd ≠ .bad) :
  codeAny (model W.prog W.w) (fx.A.mark (some (.ref e))) (.handlers (.ref e) [.ExceptHandler none none (b0 :: bs) pos] fx.env)
   (fun r s' => match r with | .ok f => After W fx β δ st s ((body { st₁ with hd := if cl then 1 else 2 }).reHd st.hd) (gF W) f s' | .error x => cameBackBy (model W.prog W.w) fx.A fx.env (Raised W fx β δ st s ((body { st₁ with hd := if cl then 1 else 2 }).reHd st.hd)) x s') s₁ := by
 refine codeAny_handlers_suite (RaisedT.flightM inv p fun s₂ p₂ => ?_)
 obtain ⟨c', cl', st₂, β₂, δ₂, ad, e1, e2, e3, e4, e5, e6⟩ := p₂.1
 rw [hr] at e1
 cases e1; cases e2
 have i' := e4.mark e3
 have g0 : Go fx β δ st s.heap β₂ δ₂ { ({ st₁ with hd := if cl then 1 else 2 } : St) with hd := st.hd } s₂.heap := by
  have := e5
  have w : ({ ({ st₁ with hd := if cl then 1 else 2 } : St) with hd := st.hd } : St) = st₁ := by rw [← e5.hd]
  rw [w]; exact e5
 refine wpAny_mono (hb β₂ δ₂ _ (fun q => nb (by rw [q]; rfl)) s₂ i') (fun f s' hf => ?_) fun x s' hx => ?_
 ·exact hf.unmark (fun _ _ _ _ _ z => z) rfl inv g0 e6
 ·refine Raised.note (fx := fx.mark e) i' hx fun s'' z => ?_
  refine RaisedT.came inv (r := (body { st₁ with hd := if cl then 1 else 2 }).reHd st.hd) ⟨z.1.unmark inv g0 e6, z.2⟩ fun s₃ w => w.1
theorem ExcSt.go {e : Addr} {cls : Value} {cl : Bool} {h₀ : Heap} (x : ExcSt (Free fx β δ st.next) h e cls cl h₀) (g : Go fx β δ st h β' δ' st' h') : ExcSt (Free fx β' δ' st'.next) h' e cls cl h₀ := by
 have fr : ∀ b o, h.get? b = some o → Free fx β δ st.next b → Free fx β' δ' st'.next b := fun b o e z => ⟨fun q => z.1 (g.own_old (by rw [e]; nofun) q), z.2⟩
 refine xo2_6 x.obj fun oe vs a1 a2 a3 a4 a5 a6 => ?_
 refine ⟨x.new, fr e oe a1 x.free, oe, vs, g.keep e oe a1 x.free.1 x.free.2, a2, a3, a4, a5, a6.imp id ?_⟩
 rintro ⟨T, oT, ts, b1, b2, b3, b4, b5, b6⟩
 exact ⟨T, oT, ts, b1, b2, fr T oT b5 b3, b4, g.keep T oT b5 b3.1 b3.2, b6⟩
theorem finR_ok {h : Nat} {f : Fl} {st : St} {fin : St → R Fl} (nb : finR h (.ok f st) fin ≠ .bad) : ∃ st₂, fin st = .ok .next st₂ ∧ finR h (.ok f st) fin = .ok f st₂ := by
 revert nb
 show (match fin st with | .ok .next s => R.ok f s | _ => .bad) ≠ _ → ∃ st₂, _ ∧ (match fin st with | .ok .next s => R.ok f s | _ => .bad) = _
 cases fin st with
 | ok x st₂ => cases x <;> first | exact fun _ => ⟨_, rfl, rfl⟩ | exact fun nb => (nb rfl).elim
 | _ => exact fun nb => (nb rfl).elim
theorem finR_ex {h c : Nat} {cl : Bool} {st : St} {fin : St → R Fl} (nb : finR h (.ex c cl st) fin ≠ .bad) : ∃ st₂, fin { st with hd := if cl then 1 else 2 } = .ok .next st₂ ∧ finR h (.ex c cl st) fin = .ex c cl { st₂ with hd := h } := by
 unfold finR at nb ⊢
 dsimp only at nb ⊢
 revert nb
 cases fin { st with hd := if cl then 1 else 2 } with
 | ok x st₂ => cases x <;> first | exact fun _ => ⟨_, rfl, rfl⟩ | exact fun nb => (nb rfl).elim
 | _ => exact fun nb => (nb rfl).elim
theorem Ok.foot {fs : List Stmt} {body : St → R Fl} {st₂ : St} {Q : Flow → Shared → Prop} {E : Value → Shared → Prop} (a : Ok W fx (PySem.execs fs fx.env) β δ st (body st) (gF W)) (q : body st = .ok .next st₂) (inv : Inv W fx β δ st s.heap)
  (hQ : ∀ β' δ' s', Inv W fx β' δ' st₂ s'.heap → Go fx β δ st s.heap β' δ' st₂ s'.heap → s' = { s with heap := s'.heap, toks := s'.toks } → Q .next s') : wpAny (model W.prog W.w) fx.A (PySem.execs fs fx.env) Q E s := by
 refine wpAny_mono (a (by rw [q]; nofun) s inv) (fun g s' h => ?_) fun _ _ ⟨_, _, _, _, _, _, e2, _⟩ => by rw [q] at e2; exact absurd e2 nofun
 obtain ⟨v, st₃, β₃, δ₃, e2, g2, i2, o2, q2⟩ := h
 rw [q] at e2
 cases e2
 cases g <;> first | exact g2.elim | exact hQ β₃ δ₃ s' i2 o2 q2
set_option backward.match.sparseCases true in
theorem fin_plain {f0 : Stmt} {fs : List Stmt} {fin : St → R Fl} {r : R Fl} {f : Fl} {F : Flow} {st₁ : St} {β₁ δ₁ : Nat → Addr} {s₁ : Shared} {E : Value → Shared → Prop} (hf : ∀ β δ st, Ok W fx (PySem.execs (f0 :: fs) fx.env) β δ st (fin st) (gF W)) (e : finR st.hd (.ok f st₁) fin = r) (nb : r ≠ .bad)
  (g1 : FlR W β₁ st₁.next f F) (i1 : Inv W fx β₁ δ₁ st₁ s₁.heap) (o1 : Go fx β δ st s.heap β₁ δ₁ st₁ s₁.heap) (q1 : s₁ = { s with heap := s₁.heap, toks := s₁.toks }) :
  wpAny (model W.prog W.w) fx.A (PySem.execs (f0 :: fs) fx.env) (fun g s' => match g with | .next => After W fx β δ st s r (gF W) F s' | g => After W fx β δ st s r (gF W) g s') E s₁ := by
 subst e
 refine xo1_2 (finR_ok nb) fun st₂ q e => ?_
 rw [e]
 refine (hf β₁ δ₁ st₁).foot q i1 fun β₃ δ₃ s' i2 o2 q2 => ⟨f, st₂, β₃, δ₃, rfl, ?_, i2, o1.trans o2, same_trans q1 q2⟩
 cases f <;> cases F <;> first | exact g1 | exact VR.mono g1 o2.next fun l hl => (o2.same l hl).1
theorem fin_ok {b : List Stmt} {f0 : Stmt} {fs : List Stmt} {p : Pos} {body fin : St → R Fl} (hb : Ok W fx (PySem.execs b fx.env) β δ st (body st) (gF W)) (hf : ∀ β δ st, Ok W fx (PySem.execs (f0 :: fs) fx.env) β δ st (fin st) (gF W))
  (hm : ∀ e β δ st, Ok W (fx.mark e) (PySem.execs (f0 :: fs) fx.env) β δ st (fin st) (gF W)) : Ok W fx (PySem.exec (.Try b [] [] (f0 :: fs) p) fx.env) β δ st (finR st.hd (body st) fin) (gF W) := fun nb s inv => by
 have nb1 : body st ≠ .bad := fun q => nb (by rw [q]; rfl)
 generalize hr : finR st.hd (body st) fin = r at nb ⊢
 refine wpAny_Try_finally (wpAny_mono (hb nb1 s inv) (fun F s₁ h => ?_) fun e s₁ h => ?_)
 ·obtain ⟨f, st₁, β₁, δ₁, e1, g1, i1, o1, q1⟩ := h
  rw [e1] at hr
  have := fin_plain (E := notedBy (model W.prog W.w) fx.A fx.env (cameBackBy (model W.prog W.w) fx.A fx.env (Raised W fx β δ st s r))) hf hr nb g1 i1 o1 q1
  cases F with
  | next => exact wpAny_execs_nil this
  | _ => exact this
 ·refine Raised.note inv h fun s₂ p₂ => ?_
  obtain ⟨c, cl, st₁, β₁, δ₁, e', e1, e2, _⟩ := p₂.1
  subst e2
  refine ⟨ref_ne_byPass _, Raised.note inv p₂.1 fun s₃ p₃ => RaisedT.flight inv p₃ _ fun s₄ p₄ => ?_⟩
  clear e1 p₂ p₃
  obtain ⟨c', cl', st₂, β₂, δ₂, ad, x1, x2, x3, x4, x5, x6⟩ := p₄.1
  cases x2
  rw [x1] at hr
  subst hr
  refine xo1_2 (finR_ex nb) fun st₃ q e => ?_
  rw [e]
  have w : ({ ({ st₂ with hd := if cl' then 1 else 2 } : St) with hd := st.hd } : St) = st₂ := by rw [← x5.hd]
  have g0 : Go fx β δ st s.heap β₂ δ₂ { ({ st₂ with hd := if cl' then 1 else 2 } : St) with hd := st.hd } s₄.heap := by rw [w]; exact x5
  refine (hm _ β₂ δ₂ _).foot q (x4.mark x3) fun β₃ δ₃ s' i2 o2 q2 => ?_
  have g := g0.trans (o2.unmark.reHd (n := st.hd))
  refine xo3_3 (p₄.2 _ rfl) fun oe vs T t1 t2 t3 => ?_
  refine RaisedT.pass inv (r := (.ex c' cl' { st₃ with hd := st.hd } : R Fl)) ⟨⟨c', cl', _, β₃, δ₃, _, rfl, rfl, (show ExcSt (Free fx β₃ δ₃ st₃.next) s'.heap _ _ _ _ from x3.go (st := { st₂ with hd := if cl' then 1 else 2 }) (st' := st₃) o2.unmark), i2.unmark inv g, g, same_trans x6 q2⟩, fun e he => ?_⟩ fun s'' z => z.1
  cases he
  exact ⟨oe, vs, T, o2.keep _ _ t1 x3.free.1 x3.free.2, t2, t3⟩
end
end Mine
end
section
open PySem PySem.W PyProof.Rows PySem.Calls PySem.SeqAt
namespace Mine
section
variable {W : Wd} {C : Nat → List AV → St → R AV}
theorem noSwap {gl : Nat → Bool} {kd : List (Nat × NameKind)} {e : E} (hw : e.wf gl kd = true) {t : Option Expr} {l : Nat} {env : Env} : swapsWith (e.dec W.nm W.sc) t l env = Pure.pure false := by
 cases e <;> first | rfl | exact ftE hw
theorem noSet {e : E} {env : Env} {x : Value} : foldedSetIterable (e.dec W.nm W.sc) env x = Pure.pure x := by cases e <;> rfl
theorem noPairs {t : T} {e : E} (h : (match t, e with | .tup .., .tup .. => false | _, _ => true) = true) {env : Env} : swappedStores [t.dec W.nm W.sc] (e.dec W.nm W.sc) env = Pure.pure none := by
 cases t <;> first | (cases e <;> first | rfl | cases h) | (rename_i x _ _; cases x <;> cases e <;> rfl)
theorem oneEach {t : T} {env : Env} : assignEach [t.dec W.nm W.sc] env = [(false, assign (t.dec W.nm W.sc) env)] := by
 cases t <;> rfl
theorem handle_step (W : Wd) (C : Nat → List AV → St → R AV) {fx : Fx} {β δ : Nat → Addr} {st : St} {s : Shared} (Z : Ctxs W fx C) {d : Nat} {np q : Pos} {b0 : Stmt} {bs rest : List Stmt} {hs : List ExceptHandler} {body next : St → R Fl} {r0 : R Fl} {c : Nat} {cl : Bool} {st₁ : St} {e : Addr} {s₁ : Shared}
  (hw : (E.gv d np).wf W.gl fx.kd = true) (inv : Inv W fx β δ st s.heap) (hr : r0 = .ex c cl st₁) (p : RaisedT W fx β δ st s r0 (.ref e) s₁) (hc : c ∈ W.g.excs ∧ d ∈ W.g.excs)
  (hb : ∀ β δ st, Ok W (fx.mark e) (PySem.execs (b0 :: bs) fx.env) β δ st (body st) (gF W)) (nb : (if c = d then (body { st₁ with hd := if cl then 1 else 2 }).reHd st.hd else next st₁) ≠ .bad)
  (hn : c ≠ d → wpAny (model W.prog W.w) fx.A (handleBy (.ref e) fx.env hs) (After W fx β δ st s (next st₁) (gF W)) (Raised W fx β δ st s (next st₁)) s₁) :
  wpAny (model W.prog W.w) fx.A (handleBy (.ref e) fx.env (.ExceptHandler (some (.Name (W.nm d) np)) none (b0 :: bs) q :: hs)) (After W fx β δ st s (if c = d then (body { st₁ with hd := if cl then 1 else 2 }).reHd st.hd else next st₁) (gF W))
   (Raised W fx β δ st s (if c = d then (body { st₁ with hd := if cl then 1 else 2 }).reHd st.hd else next st₁)) s₁ := by
 refine wpAny_handleBy_cons ?_ (ref_ne_byPass e)
 obtain ⟨c', cl', st₂, β₂, δ₂, ad, e1, e2, e3, e4, e5, e6⟩ := p.1
 rw [hr] at e1
 cases e1; cases e2
 have i' := e4.mark e3
 refine xo2_4 e3.obj fun oe vs a1 a2 a3 _ => ?_
 refine codeAny_handlers_test ?_
 refine gv_at (fx := fx.mark e) Z.here.B hw i' ?_
 refine Z.xm c d hc.1 hc.2 _ _ _ _ e oe _ e4.stays a1 a2 ⟨vs, a3⟩ ?_
 by_cases q : c = d
 ·rw [if_pos q] at nb ⊢
  rw [decide_eq_true q]
  exact codeAny_mono (suite_ok (E' := fun _ _ => True) inv hr p hb nb) fun r s' h => by cases r <;> exact h
 ·rw [if_neg q] at nb ⊢
  rw [decide_eq_false q]
  exact hn q
abbrev PS (W : Wd) (C : Nat → List AV → St → R AV) (s : S) : Prop := ∀ (fx : Fx), Ctxs W fx C → s.wf W.gl W.g fx.kd = true → ∀ β δ st, Ok W fx (PySem.exec (s.dec W.nm W.sc) fx.env) β δ st (exec W.g C s st) (gF W)
abbrev PSs (W : Wd) (C : Nat → List AV → St → R AV) (ss : Ss) : Prop := ∀ (fx : Fx), Ctxs W fx C → ss.wf W.gl W.g fx.kd = true → ∀ β δ st, Ok W fx (PySem.execs (ss.dec W.nm W.sc) fx.env) β δ st (execs W.g C ss st) (gF W)
abbrev PH (W : Wd) (C : Nat → List AV → St → R AV) (hs : Hs) : Prop := ∀ (fx : Fx), Ctxs W fx C → hs.wf W.gl W.g fx.kd = true → ∀ {β δ : Nat → Addr} {st : St} {s : Shared} {r0 : R Fl} {c : Nat} {cl : Bool} {st₁ : St} {e : Addr} {s₁ : Shared}, Inv W fx β δ st s.heap → r0 = .ex c cl st₁ → RaisedT W fx β δ st s r0 (.ref e) s₁ →
 handle W.g C st.hd hs c cl st₁ ≠ .bad → wpAny (model W.prog W.w) fx.A (handleBy (.ref e) fx.env (hs.dec W.nm W.sc)) (After W fx β δ st s (handle W.g C st.hd hs c cl st₁) (gF W)) (Raised W fx β δ st s (handle W.g C st.hd hs c cl st₁)) s₁
section
variable {fx : Fx} {β δ : Nat → Addr} {st : St}
theorem drop_ok {v : AV} {V : Value} {e : Expr} {p : Pos} (g : VR W β st.next v V) : Ok W fx (dropValue e p V) β δ st (match v with | .loc _ => R.bad | .gl _ => .bad | _ => .ok .next st) (gF W) := by
 cases v with
 | loc l => exact .bad
 | gl k => exact .bad
 | none => cases g; rw [dropValue_plain (by nofun)]; exact .pure trivial
 | bool b => cases g; rw [dropValue_plain (by nofun)]; exact .pure trivial
 | int i => obtain ⟨t, rfl⟩ := g; rw [dropValue_plain (by nofun)]; exact .pure trivial
 | str k => obtain ⟨t, rfl⟩ := g; rw [dropValue_plain (by nofun)]; exact .pure trivial
 | msg => obtain ⟨x, t, rfl⟩ := g; rw [dropValue_plain (by nofun)]; exact .pure trivial
theorem ps_expr (e : E) (p : Pos) : PS W C (.expr e p) := fun fx Z hw β δ st nb s inv => by
 show wpAny _ _ (PySem.exec (.Expr (e.dec W.nm W.sc) p) fx.env) _ _ s
 rw [exec_Expr fx.env (e.dec W.nm W.sc) p (by unfold interactive; rw [inv.ok.kind]; rfl) (noSwap hw)]
 exact (show Ok W fx _ β δ st ((evalE W.g C e st).bnd fun v s => (match v with | .loc _ => R.bad | .gl _ => .bad | _ => .ok Fl.next s)) (gF W) from .stand (.bind (evalE_ok Z.here e hw β δ st) fun v st' β' δ' V _ g _ _ => drop_ok g)) nb s inv
theorem ps_asg (t : T) (e : E) (p : Pos) : PS W C (.asg t e p) := fun fx Z hw β δ st => by
 refine xo0_2 (Bool.and_eq_true_iff.mp hw) fun h12 h3 => ?_
 refine xo0_2 (Bool.and_eq_true_iff.mp h12) fun h1 h2 => ?_
 show Ok W fx (PySem.exec (.Assign [t.dec W.nm W.sc] (e.dec W.nm W.sc) p) fx.env) β δ st ((evalE W.g C e st).bnd fun v s => (asgT W.g C t v s).bnd fun _ s => .ok .next s) (gF W)
 rw [arm_exec_Assign, oneEach, show swapsWithSole [t.dec W.nm W.sc] (e.dec W.nm W.sc) p.line fx.env = Pure.pure false from noSwap h2, noPairs h3]
 refine .stand (.pureBind ?_)
 simp only [Bool.false_eq_true, if_false]
 refine .bind (evalE_ok Z.here e h2 β δ st) fun v st' β' δ' V _ g _ _ => .pureBind ?_
 show Ok W fx (assign (t.dec W.nm W.sc) fx.env V >>= fun _ => Pure.pure Flow.next) _ _ _ _ _
 exact Ok.bnd1 (good' := gF W) (k' := fun _ => Flow.next) (asgT_ok Z.here h1 g) fun _ st' β' δ' _ _ _ => ⟨.next, rfl, trivial⟩
theorem aug_fin (B : Base W) {i : Nat} {np : Pos} {Va V : Value} {z : Int} {tm : Sem Value} (hi : fx.kd.lookup i = some .local) (hm : ∀ s Q (E : Value → Shared → Prop), Q (.int z s.toks) { s with toks := s.toks + 1 } → wpAny (model W.prog W.w) fx.A tm Q E s) :
  Ok W fx (operate [Va, V] tm >>= fun new => standAt np >>= fun _ => bindName fx.env (W.nm i) new >>= fun _ => Pure.pure Flow.next) β δ st (.ok .next (st.put i (.int z))) (gF W) := fun nb s inv => by
 refine wpAny_bind (wpAny_operate' (hm s _ _ (wpAny_bind (wpAny_standAt ?_))))
 have key := Ok.bnd1 (good' := gF W) (k' := fun _ : Unit => Flow.next) (k := fun _ s => R.ok Fl.next s) (bind_ok (fx := fx) (β := β) (δ := δ) (st := st) (i := i) (v := .int z) (V := .int z s.toks) B hi ⟨_, rfl⟩) (fun _ st' β' δ' _ _ _ => ⟨.next, rfl, trivial⟩)
 exact wpAny_mono (key (by nofun) { s with toks := s.toks + 1 } (show Inv W fx β δ st ({ s with toks := s.toks + 1 } : Shared).heap from inv)) (fun _ _ h => h.toks) fun _ _ h => h.toks
theorem ps_aug (i : Nat) (np : Pos) (o : Op) (e : E) (p : Pos) : PS W C (.aug i np o e p) := fun fx Z hw β δ st => by
 refine xo0_2 (Bool.and_eq_true_iff.mp hw) fun h1 h2 => ?_
 show Ok W fx (PySem.exec (.AugAssign (.Name (W.nm i) np) o.dec (e.dec W.nm W.sc) p) fx.env) β δ st (match get? st.loc i with | some a => (evalE W.g C e st).bnd fun b s => asInt a fun x => asInt b fun y => augR o i x y s | none => .bad) (gF W)
 rw [arm_exec_AugAssign]
 cases qx : get? st.loc i with
 | none => exact .bad
 | some a =>
  intro nb s inv
  have hk : fx.env.kindOf (W.nm i) = some .local := (kindOf_nm Z.here.B inv.ok i).trans (eq_of_beq h1)
  refine xo1_2 inv.loc fun m a1 a2 => ?_
  refine xo1_2 (a2 i a qx) fun Va b1 b2 => ?_
  refine wpAny_bind (wpAny_standAt (wpAny_bind (wpAny_loadName_local inv.ok.kind hk (inv.ok.locals ▸ a1) b1 ?_)))
  refine (show Ok W fx _ β δ st ((evalE W.g C e st).bnd _) (gF W) from .bind (.hold (evalE_ok Z.here e h2 β δ st)) fun v st' β' δ' V _ g n1 s1 => .stand ?_) nb s inv
  have ga := b2.mono n1 fun l hl => (s1 l hl).1
  cases a with
  | int x =>
   cases v with
   | int y =>
    obtain ⟨t, rfl⟩ := ga; obtain ⟨u, rfl⟩ := g
    cases o with
    | add => exact aug_fin Z.here.B (eq_of_beq h1) fun s Q E h => P.iadd_int h
    | sub => exact aug_fin Z.here.B (eq_of_beq h1) fun s Q E h => P.isub_int h
    | _ => exact .bad
   | _ => exact .bad
  | _ => exact .bad
theorem ps_ife (t : E) (a b : Ss) (p : Pos) (ia : PSs W C a) (ib : PSs W C b) : PS W C (.ife t a b p) := fun fx Z hw β δ st => by
 refine xo0_2 (Bool.and_eq_true_iff.mp hw) fun h12 h3 => ?_
 refine xo0_2 (Bool.and_eq_true_iff.mp h12) fun h1 h2 => ?_
 show Ok W fx (PySem.exec (.If (t.dec W.nm W.sc) (a.dec W.nm W.sc) (b.dec W.nm W.sc) p) fx.env) β δ st ((evalT W.g C t st).bnd fun x s => if x then execs W.g C a s else execs W.g C b s) (gF W)
 rw [arm_exec_If]
 exact .stand (.bind (evalT_ok Z.here t h1 β δ st) fun v st' β' δ' x _ g _ _ => by cases g; exact .ite (fun _ => ia fx Z h2 β' δ' st') fun _ => ib fx Z h3 β' δ' st')
theorem ps_whl (t : E) (b : Ss) (p : Pos) (ib : PSs W C b) : PS W C (.whl t b p) := fun fx Z hw β δ st => by
 refine xo0_2 (Bool.and_eq_true_iff.mp hw) fun h1 h2 => ?_
 exact while_ok (fun β δ st => evalT_ok Z.here t h1 β δ st) (fun β δ st => ib fx Z h2 β δ st) _ _
theorem ps_for (t : T) (e : E) (b : Ss) (p : Pos) (ib : PSs W C b) : PS W C (.for t e b p) := fun fx Z hw β δ st => by
 refine xo0_2 (Bool.and_eq_true_iff.mp hw) fun h123 h4 => ?_
 refine xo0_2 (Bool.and_eq_true_iff.mp h123) fun h12 h3 => ?_
 refine xo0_2 (Bool.and_eq_true_iff.mp h12) fun h1 h2 => ?_
 show Ok W fx (PySem.exec (.For (t.dec W.nm W.sc) (e.dec W.nm W.sc) (b.dec W.nm W.sc) [] p) fx.env) β δ st ((evalE W.g C e st).bnd fun v s => (match iterOf v s with
  | some it => forN it (fun x s => asgT W.g C t x s) (fun s => execs W.g C b s) W.g.lf 0 s
  | none => .bad)) (gF W)
 rw [arm_exec_For]
 refine .stand (.bind (evalE_ok Z.here e h2 β δ st) fun v st' β' δ' V _ g _ _ => ?_)
 rw [noSet]
 refine .pureBind ?_
 cases hi : iterOf v st' with
 | none => exact .bad
 | some it =>
  refine for_ok Z.here g hi (fun β δ st x X hx => asgT_ok Z.here h1 hx) (fun β δ st => ib fx Z h3 β δ st) _ fun it v => ?_
  cases t <;> first | exact .inl rfl | exact .inr ⟨_, _, _, rfl⟩
theorem ps_ret (e : E) (p : Pos) : PS W C (.ret e p) := fun fx Z hw β δ st => by
 show Ok W fx (PySem.exec (.Return (some (e.dec W.nm W.sc)) p) fx.env) β δ st ((evalE W.g C e st).bnd fun v s => .ok (.ret v) s) (gF W)
 rw [exec_Return_some]
 exact .stand (.bind (evalE_ok Z.here e hw β δ st) fun v st' β' δ' V _ g _ _ => .pure g)
theorem ps_ret0 (p : Pos) : PS W C (.ret0 p) := fun fx Z hw β δ st => by
 show Ok W fx (PySem.exec (.Return none p) fx.env) β δ st (.ok (.ret .none) st) (gF W)
 rw [exec_Return_none]
 exact .stand (.pure rfl)
theorem ps_raise (c : Nat) (np : Pos) (e : E) (cp p : Pos) : PS W C (.raise c np e cp p) := fun fx Z hw β δ st => by
 refine xo0_2 (Bool.and_eq_true_iff.mp hw) fun h12 h3 => ?_
 refine xo0_2 (Bool.and_eq_true_iff.mp h12) fun h1 h2 => ?_
 exact raise_ok Z.here (Z.xo c (of_decide_eq_true h3)) h1 h2
theorem ps_try (b : Ss) (hs : Hs) (p : Pos) (ib : PSs W C b) (ih : PH W C hs) : PS W C (.try b hs p) := fun fx Z hw β δ st => by
 refine xo0_2 (Bool.and_eq_true_iff.mp hw) fun h12 h3 => ?_
 refine xo0_2 (Bool.and_eq_true_iff.mp h12) fun h1 h2 => ?_
 show Ok W fx (PySem.exec (.Try (b.dec W.nm W.sc) (hs.dec W.nm W.sc) [] [] p) fx.env) β δ st (match execs W.g C b st with | .ok f s => R.ok f s | .ex c cl s' => handle W.g C st.hd hs c cl s' | .bad => .bad) (gF W)
 intro nb s inv
 have nb1 : execs W.g C b st ≠ .bad := fun q => nb (by rw [q])
 have ob := ib fx Z h1 β δ st nb1 s inv
 obtain ⟨h0, hs', eh⟩ : ∃ h0 hs', hs.dec W.nm W.sc = h0 :: hs' := by cases hs with | nil => cases h3 | cons => exact ⟨_, _, rfl⟩
 rw [eh]
 refine wpAny_Try_except (wpAny_mono ob (fun f s₁ h => ?_) fun e s₁ h => ?_)
 ·obtain ⟨v, st₁, β₁, δ₁, e1, g1, g2⟩ := h
  rw [e1]
  cases f with
  | next => exact wpAny_execs_nil ⟨v, st₁, β₁, δ₁, rfl, g1, g2⟩
  | _ => exact ⟨v, st₁, β₁, δ₁, rfl, g1, g2⟩
 ·refine Raised.note inv h fun s₂ p₂ => RaisedT.flight inv p₂ _ fun s₃ p₃ => ?_
  obtain ⟨c, cl, st₁, β₁, δ₁, e', e1, e2, _⟩ := p₃.1
  subst e2
  rw [e1] at nb ⊢
  rw [← eh]
  exact ih fx Z h2 inv e1 p₃ nb
theorem ps_fin (b f : Ss) (p : Pos) (ib : PSs W C b) (iF : PSs W C f) : PS W C (.fin b f p) := fun fx Z hw β δ st => by
 refine xo0_2 (Bool.and_eq_true_iff.mp hw) fun h12 h3 => ?_
 refine xo0_2 (Bool.and_eq_true_iff.mp h12) fun h1 h2 => ?_
 cases f with
 | nil => exact ftE h3
 | cons a r => exact fin_ok (fs := r.dec W.nm W.sc) (ib fx Z h1 β δ st) (fun β δ st => iF fx Z h2 β δ st) fun e β δ st => iF (fx.mark e) (Z.mark e) h2 β δ st
theorem ps_assert (e : E) (p : Pos) : PS W C (.assert e p) := fun fx Z hw β δ st => by
 show Ok W fx (PySem.exec (.Assert (e.dec W.nm W.sc) none p) fx.env) β δ st ((evalT W.g C e st).bnd fun b s => if b then .ok .next s else .bad) (gF W)
 rw [arm_exec_Assert]
 refine .stand (.bind (evalT_ok Z.here e hw β δ st) fun v st' β' δ' x _ g _ _ => ?_)
 cases g
 cases v with
 | true => exact .pure trivial
 | false => exact .bad
theorem ps_cont (p : Pos) : PS W C (.cont p) := fun fx Z hw β δ st => by
 show Ok W fx (PySem.exec (.Continue p) fx.env) β δ st (.ok .cont st) (gF W)
 rw [arm_exec_Continue]
 exact .stand (.pure trivial)
theorem ps_pass (p : Pos) : PS W C (.pass p) := fun fx Z hw β δ st => by
 show Ok W fx (PySem.exec (.Pass p) fx.env) β δ st (.ok .next st) (gF W)
 rw [arm_exec_Pass]
 exact .stand (.pure trivial)
theorem pss_nil : PSs W C .nil := fun _ _ _ _ _ _ => .pure trivial
theorem pss_cons (a : S) (r : Ss) (ia : PS W C a) (ir : PSs W C r) : PSs W C (.cons a r) := fun fx Z hw β δ st => by
 refine xo0_2 (Bool.and_eq_true_iff.mp hw) fun h1 h2 => ?_
 show Ok W fx (PySem.execs (a.dec W.nm W.sc :: r.dec W.nm W.sc) fx.env) β δ st ((exec W.g C a st).bnd fun f s => (match f with | .next => execs W.g C r s | f => .ok f s)) (gF W)
 rw [arm_execs_cons]
 refine .bind (ia fx Z h1 β δ st) fun f st' β' δ' F _ g _ _ => ?_
 rcases FlR.next g with ⟨rfl, rfl⟩ | ⟨rfl, rfl⟩ | ⟨rfl, rfl⟩ | ⟨x, V, rfl, rfl, g'⟩
 ·exact ir fx Z h2 β' δ' st'
 ·exact .pure trivial
 ·exact .pure trivial
 ·exact .pure g'
theorem ph_nil : PH W C .nil := fun fx Z hw β δ st s r0 c cl st₁ e s₁ inv hr p nb => by
 subst hr
 exact wpAny_handleBy_nil (RaisedT.pass inv p fun s'' z => z.1)
theorem ph_cons (d : Nat) (np : Pos) (b : Ss) (q : Pos) (r : Hs) (ib : PSs W C b) (ir : PH W C r) : PH W C (.cons d np b q r) := fun fx Z hw β δ st s r0 c cl st₁ e s₁ inv hr p nb => by
 refine xo0_2 (Bool.and_eq_true_iff.mp hw) fun h123 h4 => ?_
 refine xo0_2 (Bool.and_eq_true_iff.mp h123) fun h12 h3 => ?_
 refine xo0_2 (Bool.and_eq_true_iff.mp h12) fun h1 h2 => ?_
 have eh : handle W.g C st.hd (.cons d np b q r) c cl st₁ = if c ∈ W.g.excs ∧ d ∈ W.g.excs then (if c = d then (execs W.g C b { st₁ with hd := if cl then 1 else 2 }).reHd st.hd else handle W.g C st.hd r c cl st₁) else .bad := rfl
 rw [eh] at nb ⊢
 by_cases hc : c ∈ W.g.excs ∧ d ∈ W.g.excs
 ·rw [if_pos hc] at nb ⊢
  cases b with
  | nil => exact ftE h3
  | cons a bs =>
   exact handle_step W C Z (rest := []) (body := fun s => execs W.g C (.cons a bs) s) (next := fun s => handle W.g C st.hd r c cl s) h1 inv hr p hc (fun β δ st => ib (fx.mark e) (Z.mark e) h2 β δ st) nb fun hne => ir fx Z h4 inv hr p (by rw [if_neg hne] at nb; exact nb)
 ·rw [if_neg hc] at nb
  exact (nb rfl).elim
theorem pss_all (ss : Ss) : PSs W C ss :=
 Ss.rec (motive_1 := PS W C) (motive_2 := PSs W C) (motive_3 := PH W C) ps_expr ps_asg ps_aug ps_ife ps_whl ps_for ps_ret ps_ret0 ps_raise ps_try ps_fin ps_assert ps_cont ps_pass pss_nil pss_cons ph_nil ph_cons ss
theorem execs_ok (ss : Ss) (fx : Fx) (Z : Ctxs W fx C) (hw : ss.wf W.gl W.g fx.kd = true) (β δ : Nat → Addr) (st : St) : Ok W fx (PySem.execs (ss.dec W.nm W.sc) fx.env) β δ st (execs W.g C ss st) (gF W) := pss_all ss fx Z hw β δ st
end
end
end Mine
end
section
open PySem PySem.W PyProof.Rows PySem.Calls PySem.SeqAt
namespace Mine
structure FnIs (W : Wd) (f : Nat) (fd : FuncData) (kd : List (Nat × NameKind)) : Prop where
 at_ : ∃ oc od osl, W.K.lookup (W.fa f) = some ⟨oc, od, .func fd, osl⟩
 code : codeIn W.K fd.code fd.qualname = true
 body : fd.body = .stmts ((W.g.fn f).body.dec W.nm W.sc)
 globals : fd.globals = mainGlobals
 builtins : fd.builtins = builtinsNs
 names : fd.scope.names = kd.map fun x => (W.nm x.1, x.2)
 kind : fd.scope.kind = .function
 co : fd.scope.isCoroutine = false
 gen : fd.scope.isGenerator = false
 noCell : ∀ x ∈ kd, x.2 ≠ .cell
 params : ∀ p ∈ (W.g.fn f).params, kd.lookup p = some .local
 nodup : (W.g.fn f).params.Nodup
 wf : (W.g.fn f).body.wf W.gl W.g kd = true
 bind : ∀ (β : Nat → Addr) (n : Nat) (xs : List AV) (Xs : List Value) (ks : List (Nat × AV)) (Ks : List (Str × Value)) (vs : List AV) (s : Shared), W.hb.StaysIn s.heap → (f, xs.length, ks.map (·.1)) ∈ W.g.shapes → VRs W β n xs Xs → KRs W β n ks Ks →
  bindR (W.g.fn f).params (W.g.fn f).dflts xs ks = some vs → ∃ Vs, VRs W β n vs Vs ∧ BindsTo s fd ⟨Xs, Ks⟩ (((W.g.fn f).params.map W.nm).zip Vs)
structure All (W : Wd) : Prop where
 B : Base W
 Wo : Words W
 Fu : Funs W
 K : Clss W
 xm : Exms W
 xo : ∀ c, c ∈ W.g.rais → ExcOk W c
 fns : ∀ f n ks, (f, n, ks) ∈ W.g.shapes → ∃ fd kd, FnIs W f fd kd
section
variable {W : Wd} {fx : Fx} {β δ β' δ' : Nat → Addr} {st st' : St} {s : Shared} {h h' : Heap} {n : Nat} {C : Nat → List AV → St → R AV} {A : Around}
structure Rm (fx : Fx) (n : Nat) : Prop where
 depth : fx.A.depth + 2 * n < recursionLimit
 units : fx.A.units + 13 * n + 20 < cLine
theorem zip_lookup (B : Base W) {ps : List Nat} {vs : List AV} {Vs : List Value} (nd : ps.Nodup) (x : VRs W β n vs Vs) {i : Nat} {v : AV} (e : get? (ps.zip vs) i = some v) : ∃ V, ((ps.map W.nm).zip Vs).reverse.lookup (W.nm i) = some V ∧ VR W β n v V := by
 induction ps generalizing vs Vs with
 | nil => exact nsE e
 | cons p r ih =>
  cases x with
  | nil => exact nsE e
  | @cons v0 V0 vs Vs a b =>
   rw [List.nodup_cons] at nd
   rw [List.zip_cons_cons] at e
   unfold get? at e
   rw [List.map_cons, List.zip_cons_cons, List.reverse_cons]
   have app : ∀ (l m : List (Str × Value)) (k : Str), (l ++ m).lookup k = (l.lookup k).or (m.lookup k) := fun l m k => by
    induction l with
    | nil => rfl
    | cons q l ih => obtain ⟨a, b⟩ := q; rw [List.cons_append, List.lookup_cons, List.lookup_cons, ih]; split <;> rfl
   rw [app]
   by_cases q : i = p
   ·subst q
    rw [if_pos rfl] at e
    obtain rfl := Option.some.inj e
    have : (((r.map W.nm).zip Vs).reverse).lookup (W.nm i) = none := by
     rw [List.lookup_eq_none_iff]
     intro y hy
     have := List.mem_reverse.mp hy
     refine xo0_2 (List.of_mem_zip (a := y.1) (b := y.2) this) fun h1 e1_ => ?_; clear e1_
     refine xo1_2 (List.mem_map.mp h1) fun j hj ej => ?_
     have key : W.nm i ≠ y.1 := fun w => by
      rw [← ej] at w
      exact nd.1 (B.inj _ _ w ▸ hj)
     first | exact key | exact beq_eq_false_iff_ne.mpr key | exact bne_iff_ne.mpr key | (simpa using key)
    rw [this]
    exact ⟨V0, by simp, a⟩
   ·rw [if_neg q] at e
    refine xo1_2 (ih nd.2 b e) fun V e1 e2 => ?_
    exact ⟨V, by rw [e1]; rfl, e2⟩
theorem Inv.enter {fd : FuncData} {kd : List (Nat × NameKind)} {f : Nat} {vs : List AV} {Vs : List Value} {h₀ : Heap} (B : Base W) (I : FnIs W f fd kd) (inv : Inv W fx β δ st s.heap) (hh : A.handled = fx.A.handled) (hf : A.frames = fx.A.frames) (hv : VRs W β st.next vs Vs)
  (hn : h₀.Ns s.heap.objs.size (fun x => (((W.g.fn f).params.map W.nm).zip Vs).reverse.lookup x)) (k : ∀ b o, s.heap.get? b = some o → h₀.get? b = some o) :
  Inv W ⟨A.deeper (callEnv fd s.heap.objs.size (W.fa f)), callEnv fd s.heap.objs.size (W.fa f), fx.env :: fx.outer, s.heap.objs.size, kd⟩ β δ { st with loc := (W.g.fn f).params.zip vs } h₀ := by
 have G := inv.grow k
 have szf : s.heap.get? s.heap.objs.size = none := size_free
 have frs : ∀ b, b ∈ (⟨A.deeper (callEnv fd s.heap.objs.size (W.fa f)), callEnv fd s.heap.objs.size (W.fa f), fx.env :: fx.outer, s.heap.objs.size, kd⟩ : Fx).frs → b = s.heap.objs.size ∨ b ∈ fx.frs := fun b hb => by
  have e : (⟨A.deeper (callEnv fd s.heap.objs.size (W.fa f)), callEnv fd s.heap.objs.size (W.fa f), fx.env :: fx.outer, s.heap.objs.size, kd⟩ : Fx).frs = s.heap.objs.size :: fx.frs := rfl
  rw [e] at hb
  cases hb with
  | head => exact .inl rfl
  | tail _ h => exact .inr h
 have N := inv.newAt szf
 have above : W.hb.objs.size ≤ s.heap.objs.size := by
  obtain ⟨m, ⟨o, _, _, e, _⟩, _⟩ := inv.loc
  exact Nat.le_trans inv.ok.above (Nat.le_of_lt (Heap.lt_size e))
 refine ⟨⟨?_, rfl, rfl, I.kind, above, I.names, I.globals, I.builtins⟩, ⟨G.rel.some_lt, G.rel.lt_some, G.rel.obj, G.rel.bb, G.rel.dd, G.rel.bd, G.rel.base, G.rel.live⟩, ⟨_, hn, fun i v e => zip_lookup B I.nodup hv e⟩, G.stays, ?_, fun b hb => ?_, fun b hb => ?_, ?_⟩
 ·show (A.frames).map _ = _
  rw [hf, inv.ok.frames]; rfl
 ·refine xo3_3 hn fun o es ep e1 e2 _ => ?_; clear hn
  exact ⟨by rw [show (callEnv fd s.heap.objs.size (W.fa f)).scope.kind = .function from I.kind]; nofun, ⟨s.heap.objs.size, o, rfl, rfl, e1, fun vs w => by rw [e2] at w; cases w⟩, G.ff⟩
 ·rcases frs b hb with rfl | hb
  ·exact N.own
  ·exact inv.apart b hb
 ·rcases frs b hb with rfl | hb
  ·exact N.base
  ·exact inv.basefr b hb
 ·have z := G.hd
  show (match st.hd with | 0 => _ | 1 => _ | _ => _)
  have nh := N.held
  revert z nh
  cases st.hd with
  | zero => exact fun z _ => hh.trans z
  | succ k' => cases k' with
   | zero =>
    rintro ⟨e, a1, b1, d1⟩ nh
    refine ⟨e, hh.trans a1, b1, d1.1, fun q => ?_⟩
    rcases frs e q with q | q
    ·exact nh e rfl a1 q
    ·exact d1.2 q
   | succ k'' => rintro ⟨e, a1⟩ _; exact ⟨e, hh.trans a1⟩
theorem Inv.leave {fx' : Fx} {h₀ : Heap} (inv : Inv W fx β δ st h) (hfr : fx'.frs = fx'.L :: fx.frs) (hL : h.get? fx'.L = none) (ho : fx'.outer = fx.env :: fx.outer) (k : ∀ b o, h.get? b = some o → h₀.get? b = some o) {st₀ : St} (hs : st₀.next = st.next) (hhd : st₀.hd = st.hd)
  (i : Inv W fx' β' δ' st' h') (g : Go fx' β δ st₀ h₀ β' δ' st' h') : Inv W fx β' δ' { st' with loc := st.loc } h' ∧ Go fx β δ st h β' δ' { st' with loc := st.loc } h' := by
 have hn : st.next ≤ st'.next := hs ▸ g.next
 have same : ∀ l, l < st.next → β' l = β l ∧ δ' l = δ l := fun l hl => g.same l (hs ▸ hl)
 have nL : ∀ b o, h.get? b = some o → b ≠ fx'.L := fun b o e q => by rw [q, hL] at e; exact nsE e
 have sub : ∀ b, b ∈ fx.frs → b ∈ fx'.frs := fun b hb => by rw [hfr]; exact .tail _ hb
 have inF : ∀ b, b ∈ fx.frs → ∃ o, h.get? b = some o := fun b hb => let ⟨_, x, hx, _⟩ := inv.ff.mem hb; ⟨x, hx⟩
 have kp : ∀ b o, h.get? b = some o → ¬ own β δ st.next b → b ∉ fx.frs → h'.get? b = some o := fun b o e no nf => g.keep b o (k b o e) (hs ▸ no) fun q => by
  rw [hfr] at q
  rcases List.mem_cons.mp q with q | q
  ·exact nL b o e q
  ·exact nf q
 have fk : ∀ b ∈ fx.frs, ∀ o, h.get? b = some o → ∃ sl, h'.get? b = some { o with slots := sl } := fun b hb o e => g.frames b (sub b hb) (nL b o e) o (k b o e)
 have G : Go fx β δ st h β' δ' { st' with loc := st.loc } h' := ⟨hn, same, fun l h1 h2 => ?_, kp, fun b hb _ o e => fk b hb o e, g.hd.trans hhd, fun b o e => g.live b o (k b o e)⟩
 refine ⟨⟨inv.ok, ⟨i.rel.some_lt, i.rel.lt_some, i.rel.obj, i.rel.bb, i.rel.dd, i.rel.bd, i.rel.base, i.rel.live⟩, ?_, i.stays, ff_keep inv.ff fk, fun b hb => i.apart b (sub b hb), inv.basefr, ?_⟩, G⟩
 ·refine xo1_2 inv.loc fun m a1 a2 => ?_
  exact ⟨m, ns_slots a1 fun y e => fk _ (mem_frs inv.ok) y e, fun j v e => let ⟨V, b1, b2⟩ := a2 j v e; ⟨V, b1, b2.mono hn fun l hl => (same l hl).1⟩⟩
 ·have z := inv.hd
  have e : st'.hd = st.hd := g.hd.trans hhd
  show (match st'.hd with | 0 => _ | 1 => _ | _ => _)
  rw [e]
  revert z
  cases st.hd with
  | zero => exact id
  | succ k' => cases k' with
   | zero =>
    rintro ⟨e', a1, ⟨oe, vs, b, c⟩, d⟩
    exact ⟨e', a1, ⟨oe, vs, kp e' oe b d.1 d.2, c⟩, fun q => d.1 (G.own_old (by rw [b]; nofun) q), d.2⟩
   | succ k'' => exact id
 ·have := g.new l (hs ▸ h1) h2
  have np : ∀ c, h₀.get? c = none → h.get? c = none := fun c e => by
   cases q : h.get? c with
   | none => rfl
   | some x => rw [k c x q] at e; exact snE e
  exact ⟨np _ this.1, np _ this.2⟩
theorem FnIs.cells {fd : FuncData} {kd : List (Nat × NameKind)} {f : Nat} (I : FnIs W f fd kd) : ∀ x ∈ fd.scope.names, x.2 ≠ .cell := fun x hx => by
 rw [I.names] at hx
 refine xo1_2 (List.mem_map.mp hx) fun y hy e2_ => ?_; obtain rfl := e2_
 exact I.noCell y hy
theorem FnIs.pars {fd : FuncData} {kd : List (Nat × NameKind)} {f : Nat} {Vs : List Value} (I : FnIs W f fd kd) (B : Base W) : ∀ x ∈ ((W.g.fn f).params.map W.nm).zip Vs, fd.scope.names.lookup x.1 = some .local := fun x hx => by
 refine xo0_2 (List.of_mem_zip (a := x.1) (b := x.2) hx) fun h1 e1_ => ?_; clear e1_
 refine xo1_2 (List.mem_map.mp h1) fun j hj ej => ?_
 rw [I.names, ← ej]
 have : ∀ (l : List (Nat × NameKind)), (l.map fun x => (W.nm x.1, x.2)).lookup (W.nm j) = l.lookup j := fun l => by
  induction l with
  | nil => rfl
  | cons p r ih =>
   obtain ⟨a, b⟩ := p
   rw [List.map_cons, List.lookup_cons, List.lookup_cons]
   by_cases q : j = a
   ·subst q; simp
   ·rw [beq_eq_false_iff_ne.mpr fun w => q (B.inj _ _ w), beq_eq_false_iff_ne.mpr q]; exact ih
 rw [this]
 exact I.params j hj
theorem callFn_inv {g : Sig} {n f : Nat} {xs : List AV} {ks : List (Nat × AV)} (nb : callFn g (callF g n) f xs ks st ≠ .bad) : ∃ m vs, n = m + 1 ∧ (f, xs.length, ks.map (·.1)) ∈ g.shapes ∧ bindR (g.fn f).params (g.fn f).dflts xs ks = some vs ∧
  callFn g (callF g n) f xs ks st = Mine.back st.loc (execs g (callF g m) (g.fn f).body { st with loc := (g.fn f).params.zip vs }) := by
 unfold callFn at nb ⊢
 by_cases hs : (f, xs.length, ks.map (·.1)) ∈ g.shapes
 ·rw [if_pos hs] at nb ⊢
  cases hv : bindR (g.fn f).params (g.fn f).dflts xs ks with
  | none => rw [hv] at nb; exact (nb rfl).elim
  | some vs =>
   rw [hv] at nb
   cases n with
   | zero => exact (nb rfl).elim
   | succ m =>
    refine ⟨m, vs, rfl, hs, rfl, ?_⟩
    have e : callF g (m + 1) f vs st = if vs.length = (g.fn f).params.length then Mine.back st.loc (execs g (callF g m) (g.fn f).body { st with loc := (g.fn f).params.zip vs }) else .bad := rfl
    dsimp only at nb ⊢
    rw [e] at nb ⊢
    by_cases hl : vs.length = (g.fn f).params.length
    ·exact if_pos hl
    ·rw [if_neg hl] at nb; exact (nb rfl).elim
 ·rw [if_neg hs] at nb; exact (nb rfl).elim
abbrev inFx (fx : Fx) (A : Around) (W : Wd) (f : Nat) (fd : FuncData) (kd : List (Nat × NameKind)) (a : Addr) : Fx := ⟨A.deeper (callEnv fd a (W.fa f)), callEnv fd a (W.fa f), fx.env :: fx.outer, a, kd⟩
theorem After.leave {fd : FuncData} {kd : List (Nat × NameKind)} {f k₀ : Nat} {loc : List (Nat × AV)} {h₀ : Heap} {r : R Fl} {F : Flow} {s' : Shared} (inv : Inv W fx β δ st s.heap) (k : ∀ b o, s.heap.get? b = some o → h₀.get? b = some o) (nb : Mine.back st.loc r ≠ .bad)
  (h : After W (inFx fx A W f fd kd s.heap.objs.size) β δ { st with loc := loc } { s with heap := h₀, toks := k₀ } r (gF W) F s') : (F = .next ∧ After W fx β δ st s (Mine.back st.loc r) (gV W) .none s') ∨ ∃ V, F = .ret V ∧ After W fx β δ st s (Mine.back st.loc r) (gV W) V s' := by
 obtain ⟨v, st', β', δ', e1, g1, i1, o1, q1⟩ := h
 subst e1
 refine xo0_2 (inv.leave (fx' := inFx fx A W f fd kd s.heap.objs.size) rfl size_free rfl k (st₀ := { st with loc := loc }) rfl rfl i1 o1) fun i2 o2 => ?_
 rcases FlR.next g1 with ⟨rfl, rfl⟩ | ⟨rfl, rfl⟩ | ⟨rfl, rfl⟩ | ⟨x, V, rfl, rfl, g'⟩
 ·exact .inl ⟨rfl, .none, { st' with loc := st.loc }, β', δ', rfl, rfl, i2, o2, by rw [q1]⟩
 ·exact (nb rfl).elim
 ·exact (nb rfl).elim
 ·exact .inr ⟨V, rfl, x, { st' with loc := st.loc }, β', δ', rfl, g', i2, o2, by rw [q1]⟩
theorem Raised.leave {fd : FuncData} {kd : List (Nat × NameKind)} {f k₀ : Nat} {loc : List (Nat × AV)} {h₀ : Heap} {r : R Fl} {e : Value} {s' : Shared} (inv : Inv W fx β δ st s.heap) (k : ∀ b o, s.heap.get? b = some o → h₀.get? b = some o)
  (h : Raised W (inFx fx A W f fd kd s.heap.objs.size) β δ { st with loc := loc } { s with heap := h₀, toks := k₀ } r e s') : Raised W fx β δ st s (Mine.back st.loc r) e s' := by
 obtain ⟨c, cl, st', β', δ', ad, e1, e2, e3, i1, o1, q1⟩ := h
 subst e1
 refine xo0_2 (inv.leave (fx' := inFx fx A W f fd kd s.heap.objs.size) rfl size_free rfl k (st₀ := { st with loc := loc }) rfl rfl i1 o1) fun i2 o2 => ?_
 have np : ∀ c, h₀.get? c = none → s.heap.get? c = none := fun c e => by
  cases q : s.heap.get? c with
  | none => rfl
  | some x => rw [k c x q] at e; exact snE e
 exact ⟨c, cl, { st' with loc := st.loc }, β', δ', ad, rfl, e2, e3.mono np fun b z => ⟨z.1, fun q => z.2 (.tail _ q)⟩, i2, o2, by rw [q1]⟩
theorem callsOk (X : All W) : ∀ (n : Nat) (fx : Fx), Rm fx n → CallsOk W fx (callF W.g n) := by
 intro n
 induction n with
 | zero =>
  intro fx _ A _ _ _ _ β δ st s f xs Xs ks Ks _ _ nb
  refine xo2_2 (callFn_inv nb) fun _ _ h _ => ?_
  exact absurd h nofun
 | succ n ih =>
  intro fx rm A hh hf hd hu β δ st s f xs Xs ks Ks hx hk nb inv
  refine xo2_4 (callFn_inv nb) fun m vs hm hs hv er => ?_
  cases hm
  rw [er] at nb ⊢
  clear er
  refine xo2_1 (X.fns f _ _ hs) fun fd kd I => ?_
  refine xo1_2 (I.bind β st.next xs Xs ks Ks vs s inv.stays hs hx hk hv) fun Vs hV hB => ?_
  refine xo3_1 I.at_ fun oc od osl hat => ?_
  have XK := K_in X.B inv
  have rd := rm.depth
  have ru := rm.units
  refine codeAny_call_def (hroom := by omega) (XK _ _ hat) rfl (X.B.lim.keeps inv.stays) (codeRec_of XK I.code) I.body hB I.cells (I.pars X.B) (fun h₀ hn k => ?_) I.co I.gen I.kind
  have inv' := inv.enter X.B I hh hf hV hn k
  have Z : Ctxs W (inFx fx A W f fd kd s.heap.objs.size) (callF W.g n) :=
   ⟨fun hd' => ⟨X.B, X.Wo, X.Fu, X.K, ih _ ⟨by show A.depth + 1 + 2 * n < _; omega, by show A.units + 3 + 13 * n + 20 < _; omega⟩, by show A.units + 3 + 20 < cLine; omega⟩, X.xm, X.xo⟩
  have ex := execs_ok (W.g.fn f).body _ Z I.wf β δ { st with loc := (W.g.fn f).params.zip vs }
  clear ih rd ru rm hx hk hv hV hB hn Z
  generalize hr : execs W.g (callF W.g n) (W.g.fn f).body { st with loc := (W.g.fn f).params.zip vs } = r at nb ex ⊢
  refine wpAny_mono (ex (fun q => nb (by rw [q]; rfl)) { s with heap := h₀, toks := s.toks + _ } inv') (fun F s' hF => ?_) fun e s' he => ?_
  ·rcases hF.leave inv k nb with ⟨rfl, h⟩ | ⟨V, rfl, h⟩ <;> exact h
  ·unfold leaving
   exact wpAny_bind (Raised.note (fx := inFx fx A W f fd kd s.heap.objs.size) inv' he fun s₂ p₂ => RaisedT.flight (fx := inFx fx A W f fd kd s.heap.objs.size) inv' p₂ _ fun s₃ p₃ => (show Raised W fx β δ st s _ e s₃ from p₃.1.leave inv k))
end
end Mine
end
section
open PySem PySem.W PyProof.Rows PySem.Calls
namespace Mine
noncomputable def apart : List Str → Bool
 | [] => true
 | x :: r => r.all (fun y => !(x.cps.toList == y.cps.toList)) && apart r
noncomputable def namesOk (l bad : List Str) : Bool := apart l && l.all fun x => (bad.all fun y => !(x.cps.toList == y.cps.toList)) && x.cps.toList.all fun c => decide (c < 1114112)
theorem apart_get : ∀ {l : List Str}, apart l = true → ∀ {i j : Nat} {x y : Str}, l[i]? = some x → l[j]? = some y → x.cps.toList = y.cps.toList → i = j
 | [], _, i, j, x, y, e, _, _ => by simp at e
 | z :: r, h, i, j, x, y, e1, e2, q => by
  unfold apart at h
  refine xo0_2 (Bool.and_eq_true_iff.mp h) fun h1 h2 => ?_
  have ne : ∀ w, w ∈ r → z.cps.toList ≠ w.cps.toList := fun w hw => by
   have := List.all_eq_true.mp h1 w hw
   simpa using this
  cases i with
  | zero =>
   cases j with
   | zero => rfl
   | succ j =>
    simp only [List.getElem?_cons_zero, Option.some.injEq, List.getElem?_cons_succ] at e1 e2
    subst e1
    exact (ne y (List.mem_of_getElem? e2) q).elim
  | succ i =>
   cases j with
   | zero =>
    simp only [List.getElem?_cons_zero, Option.some.injEq, List.getElem?_cons_succ] at e1 e2
    subst e2
    exact (ne x (List.mem_of_getElem? e1) q.symm).elim
   | succ j =>
    simp only [List.getElem?_cons_succ] at e1 e2
    rw [apart_get h2 e1 e2 q]
section
variable {l bad : List Str} (h : namesOk l bad = true)
include h
theorem names_small {i : Nat} {x : Str} (e : l[i]? = some x) : ∀ c ∈ x.cps.toList, c < 1114112 := fun c hc => by
 refine xo0_2 (Bool.and_eq_true_iff.mp h) fun _ h2 => ?_
 have := List.all_eq_true.mp h2 x (List.mem_of_getElem? e)
 refine xo0_2 (Bool.and_eq_true_iff.mp this) fun _ h3 => ?_
 exact of_decide_eq_true (List.all_eq_true.mp h3 c hc)
theorem nm_cps (i j : Nat) (q : (nmOf l i).cps.toList = (nmOf l j).cps.toList) : i = j := by
 refine xo0_2 (Bool.and_eq_true_iff.mp h) fun h1 h2 => ?_
 unfold nmOf at q
 cases e1 : l[i]? with
 | some x =>
  cases e2 : l[j]? with
  | some y => rw [e1, e2] at q; exact apart_get h1 e1 e2 q
  | none =>
   rw [e1, e2] at q
   have := names_small h e1 (1114112 + j) (by simp only at q; rw [q]; simp)
   omega
 | none =>
  cases e2 : l[j]? with
  | some y =>
   rw [e1, e2] at q
   have := names_small h e2 (1114112 + i) (by simp only at q; rw [← q]; simp)
   omega
  | none => rw [e1, e2] at q; simpa using q
theorem nm_inj (i j : Nat) (q : nmOf l i = nmOf l j) : i = j := nm_cps h i j (by rw [q])
theorem nm_odd (i : Nat) {b : Str} (hb : b ∈ bad) (hz : b.cps.size ≠ 1) : (nmOf l i == b) = false := by
 refine xo0_2 (Bool.and_eq_true_iff.mp h) fun h1 h2 => ?_
 refine beq_eq_false_iff_ne.mpr fun e => ?_
 unfold nmOf at e
 cases e1 : l[i]? with
 | some x =>
  rw [e1] at e
  have := List.all_eq_true.mp h2 x (List.mem_of_getElem? e1)
  refine xo0_2 (Bool.and_eq_true_iff.mp this) fun h4 _ => ?_
  have := List.all_eq_true.mp h4 b hb
  simp only at e
  rw [e] at this
  simp at this
 | none => rw [e1] at e; exact hz (by rw [← e]; rfl)
end
end Mine
end
section
open PySem PySem.W PyProof.Rows PySem.Calls
namespace Mine
noncomputable def slotsOf (ns : List Str) (pos : List Value) (kw : List (Str × Value)) : List (Str × Value) := ns.zip pos ++ kw
noncomputable def kwOk (ns : List Str) : List (Str × Value) → List (Str × Value) → Bool
 | _, [] => true
 | sl, (k, v) :: r => ns.contains k && (sl.lookup k).isNone && kwOk ns (sl ++ [(k, v)]) r
noncomputable def withDflt (sl : List (Str × Value)) : List (Str × Value) → List (Str × Value)
 | [] => sl
 | (n, d) :: r => withDflt (if (sl.lookup n).isNone then sl ++ [(n, d)] else sl) r
noncomputable def boundOf (ns : List Str) (ds : List Value) (pos : List Value) (kw : List (Str × Value)) : List (Str × Value) :=
 ns.filterMap fun n => ((withDflt (slotsOf ns pos kw) ((ns.drop (ns.length - ds.length)).zip ds)).lookup n).map (n, ·)
section
variable {M : Model} {A : Around} {E : Value → Shared → Prop} {s : Shared}
abbrev Dfl (fd : FuncData) (ds : List Value) (s : Shared) : Prop := ∀ (M : Model) (A : Around) (E : Value → Shared → Prop) (Q : Option (Array Value) → Shared → Prop), (∀ o : Option (Array Value), (o.getD #[]).toList = ds → Q o s) → wpAny M A (seqItems? fd.defaults) Q E s
theorem kw_step {ns : List Str} {sl : List (Str × Value)} {k : Str} {v : Value} {r : List (Str × Value)} (h : kwOk ns sl ((k, v) :: r) = true) : ns.contains k = true ∧ sl.lookup k = none ∧ kwOk ns (sl ++ [(k, v)]) r = true := by
 refine xo0_2 (Bool.and_eq_true_iff.mp h) fun h12 h3 => ?_
 refine xo0_2 (Bool.and_eq_true_iff.mp h12) fun h1 h2 => ?_
 exact ⟨h1, Option.isNone_iff_eq_none.mp h2, h3⟩
theorem bind_gen {fd : FuncData} {as : List Arg} {dx : List Expr} {args : Args} {ds : List Value} {ns : List Str} (hp : fd.params = ⟨[], as, none, [], [], none, dx⟩) (ha : as.map (·.arg) = ns) (hd : Dfl fd ds s) (hk : kwOk ns (ns.zip args.pos) args.kw = true) (hn : args.pos.length ≤ ns.length) (hds : ds.length ≤ ns.length)
  (hm : ((ns.take (ns.length - ds.length)).filter fun n => ((slotsOf ns args.pos args.kw).lookup n).isNone) = []) : BindsTo s fd args (boundOf ns ds args.pos args.kw) := fun M A E Q hq => by
 obtain ⟨pos, kw⟩ := args
 have hl : as.length = ns.length := by rw [← ha, List.length_map]
 dsimp only at hk hn hm hq
 unfold boundOf at hq
 generalize hT : withDflt (slotsOf ns pos kw) ((ns.drop (ns.length - ds.length)).zip ds) = T at hq
 generalize hS : slotsOf ns pos kw = S at hT hm
 unfold bindArgs
 rw [hp]
 simp only [List.map_nil, List.nil_append, List.append_nil, ha, hl]
 refine wpAny_bind (wpAny_forIn_list _ (fun rest b s' => s' = s ∧ b.2 = [] ∧ kwOk ns b.1 rest = true ∧ b.1 ++ rest = S) _ ?_ ?_ _ _ ⟨rfl, rfl, hk, hS⟩)
 ·clear hk hn hm hT hS hq hd hds
  intro x rest b s' w
  have k3 := kw_step (k := x.1) (v := x.2) w.2.2.1
  exact wpAny_ite_true (decide_eq_true (by rw [k3.1]; rfl)) (wpAny_ite_false (decide_eq_false (by rw [k3.2.1]; exact Bool.false_ne_true)) (wpAny_pure ⟨w.1, w.2.1, k3.2.2, (List.append_assoc ..).trans w.2.2.2⟩))
 ·clear hk hS
  intro b s' w
  obtain rfl : s' = s := w.1
  obtain rfl : b = (S, []) := Prod.ext ((List.append_nil _).symm.trans w.2.2.2) w.2.1
  clear w
  refine wpAny_bind (hd _ _ _ _ fun o ho => ?_)
  dsimp only
  have hz : ds.drop (ds.length - ns.length) = ds := by rw [Nat.sub_eq_zero_of_le hds, List.drop_zero]
  refine wpAny_ite_false (decide_eq_false (by rw [decide_eq_false (Nat.not_lt.mpr hn)]; simp)) (wpAny_ite_false (decide_eq_false (by rw [ho, hz, hm]; simp)) ?_)
  rw [ho, hz]
  clear hz
  clear hm hd ho hn hds
  refine wpAny_bind (wpAny_forIn_list _ (fun rest b s'' => s'' = s' ∧ withDflt b rest = T) _ ?_ ?_ _ _ ⟨rfl, hT⟩)
  ·clear hT hq
   intro x rest b s'' w
   have h4 : withDflt (if (b.lookup x.1).isNone then b ++ [(x.1, x.2)] else b) rest = T := w.2
   exact wpAny_ite_split (fun q => wpAny_pure ⟨w.1, by rw [if_pos q] at h4; exact h4⟩) (fun q => wpAny_pure ⟨w.1, by rw [if_neg q] at h4; exact h4⟩)
  ·rintro b s'' ⟨rfl, rfl⟩
   exact wpAny_bind (wpAny_pure (wpAny_pure hq))
theorem dfl_none {fd : FuncData} (h : fd.defaults = .none) : ∀ (M : Model) (A : Around) (E : Value → Shared → Prop) (Q : Option (Array Value) → Shared → Prop), (∀ o : Option (Array Value), (o.getD #[]).toList = [] → Q o s) → wpAny M A (seqItems? fd.defaults) Q E s := fun M A E Q hq => by
 rw [h]
 exact wpAny_pure (hq none rfl)
theorem dfl_ref {fd : FuncData} {T : Addr} {o : Obj} {items : Array Value} {n : Nat} (h : fd.defaults = .ref T) (ho : s.heap.get? T = some o) (hs : o.data = .seq items n) :
  ∀ (M : Model) (A : Around) (E : Value → Shared → Prop) (Q : Option (Array Value) → Shared → Prop), (∀ o : Option (Array Value), (o.getD #[]).toList = items.toList → Q o s) → wpAny M A (seqItems? fd.defaults) Q E s := fun M A E Q hq => by
 rw [h]
 exact wpAny_seqItems ho hs (hq (some items) rfl)
end
end Mine
end
section
open PySem PySem.W PyProof.Rows PySem.Calls PySem.SeqAt
namespace Mine
noncomputable def st0 (xs : List AV) : St := ⟨[], fun l => if l = 0 then some (.ro xs) else none, 1, 0⟩
section
variable {W : Wd} {fx : Fx} {β δ : Nat → Addr} {st : St} {s : Shared} {A : Around} {E Q : Value → Shared → Prop}
theorem Inv.enter0 {fd : FuncData} {kd : List (Nat × NameKind)} {f p : Nat} {xs : List AV} {Vs : List Value} {ep : Nat} {h₀ : Heap} {a : Addr} (B : Base W) (I : FnIs W f fd kd) (hh : A.handled = none) (hf : A.frames = some []) (hp : (W.g.fn f).params = [p])
  (hs : W.hb.StaysIn s.heap) (hsz : W.hb.objs.size ≤ s.heap.objs.size) (ha : s.heap.get? a = some W.scr) (hscr : W.scr.cls = .type "list" ∧ W.scr.data = .seq Vs.toArray ep) (hv : ∀ β n, VRs W β n xs Vs) (hx : xs.length ≤ 100000) (hb : W.hb.get? a = none)
  (hn : h₀.Ns s.heap.objs.size (fun x => (((W.g.fn f).params.map W.nm).zip [Value.ref a]).reverse.lookup x)) (k : ∀ b o, s.heap.get? b = some o → h₀.get? b = some o) :
  Inv W ⟨A.deeper (callEnv fd s.heap.objs.size (W.fa f)), callEnv fd s.heap.objs.size (W.fa f), [], s.heap.objs.size, kd⟩ (fun _ => a) (fun _ => a) { st0 xs with loc := [(p, .loc 0)] } h₀ := by
 have szf : W.hb.get? s.heap.objs.size = none := Heap.get?_none_of_le hsz
 have hL : a ≠ s.heap.objs.size := fun e => by rw [e, size_free] at ha; exact nsE ha
 have one : ∀ l : Nat, l < 1 → l = 0 := fun l h => by omega
 refine ⟨⟨?_, rfl, rfl, I.kind, hsz, I.names, I.globals, I.builtins⟩, ⟨fun l o e => ?_, fun l h => ?_, fun l o e => ?_, fun l l' h h' _ => (one l h).trans (one l' h').symm, fun l l' h h' _ => (one l h).trans (one l' h').symm, fun l l' h h' _ => (one l h).trans (one l' h').symm, fun l _ => ⟨hb, hb⟩,
  fun l _ => ⟨⟨_, k _ _ ha⟩, _, k _ _ ha⟩⟩, ⟨_, hn, fun i v e => ?_⟩, fun b o e => k b o (hs b o e), ?_, fun b hb => ?_, fun b hb => ?_, ?_⟩
 ·show (A.frames).map _ = _
  rw [hf]; rfl
 ·show l < 1
  simp only [st0] at e
  split at e
  ·omega
  ·exact nsE e
 ·have := one l h
  subst this
  exact ⟨.ro xs, rfl⟩
 ·simp only [st0] at e
  split at e
  ·obtain rfl := Option.some.inj e
   exact ⟨Vs, ep, ⟨hscr, k _ _ ha⟩, hv _ _, hx⟩
  ·exact nsE e
 ·show ∃ V, _ = some V ∧ _
  refine zip_lookup (vs := [.loc 0]) B I.nodup (.cons (show VR W (fun _ => a) 1 (.loc 0) (.ref a) from ⟨Nat.zero_lt_one, rfl⟩) .nil) ?_
  rw [hp]
  exact e
 ·refine xo3_3 hn fun o es ep e1 e2 _ => ?_; clear hn
  exact ⟨by rw [show (callEnv fd s.heap.objs.size (W.fa f)).scope.kind = .function from I.kind]; nofun, ⟨s.heap.objs.size, o, rfl, rfl, e1, fun vs w => by rw [e2] at w; cases w⟩, trivial⟩
 ·have e : b ∈ [s.heap.objs.size] := hb
  rcases List.mem_singleton.mp e with rfl
  rintro ⟨l, _, q | q⟩ <;> exact hL q.symm
 ·have e : b ∈ [s.heap.objs.size] := hb
  rcases List.mem_singleton.mp e with rfl
  exact szf
 ·show (A.deeper _).handled = none
  exact hh
theorem top_ok (X : All W) {f p n : Nat} {xs : List AV} {Vs : List Value} {ep : Nat} {a : Addr} {b : Bool} {st' : St} (hf : (f, 1, []) ∈ W.g.shapes) (hp : (W.g.fn f).params = [p]) (hh : A.handled = none) (hfr : A.frames = some []) (hd : A.depth + 1 + 2 * n < recursionLimit) (hu : A.units + 3 + 13 * n + 20 < cLine)
  (hs : W.hb.StaysIn s.heap) (hsz : W.hb.objs.size ≤ s.heap.objs.size) (ha : s.heap.get? a = some W.scr) (hscr : W.scr.cls = .type "list" ∧ W.scr.data = .seq Vs.toArray ep) (hv : ∀ β n, VRs W β n xs Vs) (hx : xs.length ≤ 100000) (hb : W.hb.get? a = none)
  (hrun : callF W.g (n + 1) f [.loc 0] (st0 xs) = .ok (.bool b) st') (hro : st'.heap 0 = some (.ro xs))
  (hQ : ∀ s', W.hb.StaysIn s'.heap → s'.heap.get? a = some W.scr → s' = { s with heap := s'.heap, toks := s'.toks } → Q (.bool b) s') : wpAny (model W.prog W.w) A (call (.ref (W.fa f)) [.ref a]) Q E s := by
 refine xo2_1 (X.fns f _ _ hf) fun fd kd I => ?_
 have bR : bindR (W.g.fn f).params (W.g.fn f).dflts [.loc 0] [] = some [.loc 0] := by rw [hp]; rfl
 refine xo1_2 (I.bind (fun _ => a) 1 [.loc 0] [.ref a] [] [] [.loc 0] s hs hf (.cons ⟨Nat.zero_lt_one, rfl⟩ .nil) ⟨[], .nil, rfl⟩ bR) fun Vs' hV hB => ?_
 obtain rfl : Vs' = [.ref a] := by
  cases hV with
  | cons h1 h2 => cases h2; obtain ⟨_, rfl⟩ := h1; rfl
 refine xo3_1 I.at_ fun oc od osl hat => ?_
 have XK : W.K.In s.heap := fun c o e => hs c o (X.B.inK c o e)
 refine wpAny_call (codeAny_call_def (hroom := by omega) (XK _ _ hat) rfl (X.B.lim.keeps hs) (codeRec_of XK I.code) I.body hB (I.cells) (I.pars X.B) (fun h₀ hn k => ?_) I.co I.gen I.kind)
 ·have inv' := Inv.enter0 X.B I hh hfr hp hs hsz ha hscr hv hx hb hn k
  have Z : Ctxs W ⟨A.deeper (callEnv fd s.heap.objs.size (W.fa f)), callEnv fd s.heap.objs.size (W.fa f), [], s.heap.objs.size, kd⟩ (callF W.g n) :=
   ⟨fun hd' => ⟨X.B, X.Wo, X.Fu, X.K, callsOk X n _ ⟨by show A.depth + 1 + 2 * n < _; omega, by show A.units + 3 + 13 * n + 20 < _; omega⟩, by show A.units + 3 + 20 < cLine; omega⟩, X.xm, X.xo⟩
  have ex := execs_ok (W.g.fn f).body _ Z I.wf (fun _ => a) (fun _ => a) { st0 xs with loc := [(p, .loc 0)] }
  have run : back [] (execs W.g (callF W.g n) (W.g.fn f).body { st0 xs with loc := [(p, .loc 0)] }) = .ok (.bool b) st' := by
   unfold callF at hrun
   rw [hp] at hrun
   exact hrun
  have nb1 : execs W.g (callF W.g n) (W.g.fn f).body { st0 xs with loc := [(p, .loc 0)] } ≠ .bad := fun q => by rw [q] at run; exact absurd run nofun
  refine wpAny_mono (ex nb1 { s with heap := h₀, toks := s.toks + _ } inv') (fun F s' hF => ?_) fun e s' he => ?_
  ·obtain ⟨v, st₁, β', δ', e1, g1, i1, o1, q1⟩ := hF
   rw [e1] at run
   have keep : W.hb.StaysIn s'.heap := i1.stays
   have b0 : β' 0 = a := (o1.same 0 Nat.zero_lt_one).1
   have done : st₁.heap 0 = some (.ro xs) → Q (.bool b) s' := fun h0 => by
    obtain ⟨Us, ep', ⟨-, z⟩, -⟩ := i1.rel.obj 0 _ h0
    rw [b0] at z
    exact hQ s' keep z (by rw [q1])
   rcases FlR.next g1 with ⟨rfl, rfl⟩ | ⟨rfl, rfl⟩ | ⟨rfl, rfl⟩ | ⟨x, V, rfl, rfl, g'⟩
   ·exact absurd run nofun
   ·exact absurd run nofun
   ·cases run
   ·cases run
    cases g'
    exact done hro
  ·obtain ⟨c, cl, st₁, β', δ', ad, e1, _⟩ := he
   rw [e1] at run
   exact absurd run nofun
end
end Mine
end
section
open PySem PySem.W PyProof.Rows PySem.Calls
namespace Mine
noncomputable def bmX : List Value := [.type "Exception", .type "BaseException", .type "object"]
inductive OwnX (h : Heap) (C P : Addr) : Prop
 | intro (N nm q bs hdct sn sub ab col dd k0 k1 k2 k3 k5 mN) (a : h.get? C = some (excClassObj nm q C N bs (.ref P :: bmX) hdct sn sub ab col dd k0 k1 k2 k3 k5 "Exception.__new__")) (b : h.Ns N mN) (c : mN "__init__" = none) (d : OwnTail h bmX (.ref P :: bmX))
theorem OwnX.keeps {h h' : Heap} {C P : Addr} (x : OwnX h C P) (k : ∀ b o, h.get? b = some o → h'.get? b = some o) : OwnX h' C P := by
 obtain ⟨N, nm, q, bs, hdct, sn, sub, ab, col, dd, k0, k1, k2, k3, k5, mN, a, b, c, d⟩ := x
 exact ⟨N, nm, q, bs, hdct, sn, sub, ab, col, dd, k0, k1, k2, k3, k5, mN, k _ _ a, b.keeps k, c, d.keeps k⟩
noncomputable def onCls (d : Data) (f : ClassData → Bool) : Bool := match d with
 | .cls cd => f cd
 | _ => false
theorem onCls_inv {d : Data} {f : ClassData → Bool} (h : onCls d f = true) : ∃ cd, d = .cls cd ∧ f cd = true := by
 cases d <;> first | exact ⟨_, rfl, h⟩ | exact ftE h
noncomputable def ownXD (K : Frag) (C P : Addr) (sl : List (Option Value)) (cd : ClassData) : Bool :=
 (cd.mro == .ref C :: .ref P :: bmX) && (sl == [sl.getD 0 none, sl.getD 1 none, sl.getD 2 none, sl.getD 3 none, some (.builtin "Exception.__new__"), sl.getD 5 none]) && !cd.hasDel && tailIn K bmX (.ref P :: bmX) && nsOkIn K cd.ns && (nsIn K cd.ns "__init__" == some none)
noncomputable def ownXB (K : Frag) (C P : Addr) : Bool := match K.lookup C with
 | some o => (o.cls == .type "type") && onCls o.data (ownXD K C P o.slots.toList)
 | none => false
theorem ownX_of {K : Frag} {h : Heap} {C P : Addr} (X : K.In h) (e : ownXB K C P = true) : OwnX h C P := by
 unfold ownXB at e
 cases ho : K.lookup C with
 | none => rw [ho] at e; exact ftE e
 | some o =>
  rw [ho] at e
  have e := Bool.and_eq_true_iff.mp e
  refine xo1_2 (onCls_inv e.2) fun cd hd e2 => ?_
  have e1 := beq_iff_eq.mp e.1
  clear e
  unfold ownXD at e2
  simp only [Bool.and_eq_true, beq_iff_eq, Bool.not_eq_true'] at e2
  obtain ⟨⟨⟨⟨⟨e2, e3⟩, hdel⟩, ht⟩, hok⟩, hni⟩ := e2
  obtain ⟨oc, dd, da, ⟨l⟩⟩ := o
  obtain ⟨nm, bs, mro, ns, qn, hd', sn, sub, ab, col, del⟩ := cd
  dsimp only at *
  subst e1 hd e2 hdel
  rw [e3] at ho
  exact ⟨_, _, _, _, _, _, _, _, _, _, _, _, _, _, _, _, X _ _ ho, .of_isNs (isNs_of_in X hok), nsMap_none_of_in X hok hni, tail_of_in X ht⟩
section
variable {prog : Program} {w : World} {M : Model} {A : Around} {E : Value → Shared → Prop} {s : Shared} {C D P P' e t : Addr} {o : Obj}
theorem OwnX.matches {Q : Bool → Shared → Prop} (x : OwnX s.heap C P) (y : OwnX s.heap D P') (hne : C ≠ D → P ≠ D) (he : s.heap.get? e = some o) (hcls : o.cls = .ref C) (hq : Q (decide (C = D)) s) : wpAny M A (excMatches (.ref e) (.ref D)) Q E s := by
 obtain ⟨N, nm, q, bs, hdct, sn, sub, ab, col, dd, k0, k1, k2, k3, k5, mN, hC, -, -, -⟩ := x
 obtain ⟨N', nm', q', bs', hdct', sn', sub', ab', col', dd', j0, j1, j2, j3, j5, mN', hD, -, -, -⟩ := y
 obtain ⟨h, g, d, t, os⟩ := s
 have hDB : (Value.ref D :: (.ref P' :: bmX)).contains (.type "BaseException") = true := by simp [bmX]
 have hCD : (Value.ref C :: (.ref P :: bmX)).contains (.ref D) = decide (C = D) := by
  by_cases z : C = D
  ·subst z; rw [decide_eq_true rfl]; simp
  ·have z1 : D ≠ C := fun w => z w.symm
   have z2 : D ≠ P := fun w => hne z w.symm
   rw [decide_eq_false z]
   simp [bmX, z1, z2]
 have f := tc_notTuple
 unfold excMatches
 repeat (first | (with_reducible refine wpAny_loadPart_at he ?_; rw [hcls]) | with_reducible refine wpAny_loadPart_at hD ?_ | (with_reducible refine wpAny_isSubtype_exc hD ?_; rw [hDB]) | (with_reducible refine wpAny_isSubtype_exc hC ?_; rw [hCD]) | wp_step)
 revert hq
 cases decide (C = D) <;> (intro hq; wp_walk; exact hq)
theorem OwnX.matches_type {T : String} {Q : Bool → Shared → Prop} (y : OwnX s.heap D P') (hX : s.TypeIs (.ref e) T) (hT : isSubtype (.type T) (.ref D) = pure false) (hq : Q false s) : wpAny M A (excMatches (.ref e) (.ref D)) Q E s := by
 obtain ⟨N', nm', q', bs', hdct', sn', sub', ab', col', dd', j0, j1, j2, j3, j5, mN', hD, -, -, -⟩ := y
 obtain ⟨h, g, d, t, os⟩ := s
 have hDB : (Value.ref D :: (.ref P' :: bmX)).contains (.type "BaseException") = true := by simp [bmX]
 have f := tc_notTuple
 unfold excMatches
 repeat (first | with_reducible refine wpAny_loadPart_at hD ?_ | (with_reducible refine wpAny_isSubtype_exc hD ?_; rw [hDB]) | wp_step)
 exact hq
theorem OwnX.make {V : Value} {Q : Value → Shared → Prop} (x : OwnX s.heap C P) (hq : ∀ h' e t, (∀ b o, s.heap.get? b = some o → h'.get? b = some o) → s.heap.get? e = none → h'.get? e = some (excObj (.ref C) t) → Q (.ref e) { s with heap := h' }) :
  wpAny (model prog w) A (call (.ref C) [V]) Q E s := by
 obtain ⟨N, nm, q, bs, hdct, sn, sub, ab, col, dd, k0, k1, k2, k3, k5, mN, hC, hN, hi, T⟩ := x
 obtain ⟨h, g, d, t, os⟩ := s
 refine wpAny_call_exc_subU (Bn := "Exception") F.excBase_Exception (by decide +kernel) F.excBase_Exception T hC hN hi (fun h' e hm => ?_) (by show 1 ≤ sizeLine; rw [sizeLine_eq]; decide)
 refine xo1_2 hm.there fun t' ht e2_ => ?_; clear e2_
 exact hq h' e t' hm.keeps hm.new ht
theorem OwnX.raise {Q : Flow → Shared → Prop} (x : OwnX s.heap C P) (he : s.heap.get? e = some (excObj (.ref C) t)) (h : wpAny M A (raiseNew (.ref e) : Sem Flow) Q E s) : wpAny M A (raiseTail (.ref e)) Q E s := by
 obtain ⟨N, nm, q, bs, hdct, sn, sub, ab, col, dd, k0, k1, k2, k3, k5, mN, hC, hN, hi, T⟩ := x
 obtain ⟨hp, g, d, tk, os⟩ := s
 have hcB : (Value.ref C :: (.ref P :: bmX)).contains (.type "BaseException") = true := by simp [bmX]
 unfold raiseTail
 repeat (first | with_reducible refine wpAny_loadPart_at he ?_ | with_reducible refine wpAny_loadPart_at hC ?_ | (with_reducible refine wpAny_isSubtype_exc hC ?_; rw [hcB]) | wp_step)
 exact h
theorem OwnX.keeper (x : OwnX s.heap C P) (M : Model) : Looks M s.heap (keeperOf (.ref C)) .machine := fun A Q E s' k hq => by
 obtain ⟨N, nm, q, bs, hdct, sn, sub, ab, col, dd, k0, k1, k2, k3, k5, mN, hC, hN, hi, T⟩ := x
 obtain ⟨hp, g, d, tk, os⟩ := s'
 exact wpAny_keeperOf_exc (k _ _ hC) hq
theorem made_type {T n i : String} (F : ExcCallFacts T n i) {V : Value} {Q : Value → Shared → Prop} (hq : ∀ h' e t, (∀ b o, s.heap.get? b = some o → h'.get? b = some o) → s.heap.get? e = none → h'.get? e = some (excObj (.type T) t) → Q (.ref e) { s with heap := h' }) :
  wpAny (model prog w) A (call (.type T) [V]) Q E s := by
 obtain ⟨h, g, d, t, os⟩ := s
 refine wpAny_call_exc F (fun h' e hm => ?_) (by show 1 ≤ sizeLine; rw [sizeLine_eq]; decide)
 refine xo1_2 ((Heap.MadeExc.of hm).there) fun t' ht e2_ => ?_; clear e2_
 exact hq h' e t' (Heap.MadeExc.of hm).keeps (Heap.MadeExc.of hm).new ht
theorem raise_type {T : String} (F : ExcRaiseFacts T) {Q : Flow → Shared → Prop} (he : s.heap.get? e = some (excObj (.type T) t)) (h : wpAny M A (raiseNew (.ref e) : Sem Flow) Q E s) : wpAny M A (raiseTail (.ref e)) Q E s := by
 obtain ⟨hp, g, d, tk, os⟩ := s
 have hsub := F.isExc
 have hmeta := F.plainMeta
 unfold raiseTail
 repeat (first | refine wpAny_loadPart he ?_ | wp_step)
 exact h
end
end Mine
end
section
open PySem PySem.W PyProof.Rows PySem.Calls
namespace Mine
theorem mem_of_lookup {α : Type} {l : List (Nat × α)} {k : Nat} {x : α} (e : l.lookup k = some x) : (k, x) ∈ l := by
 induction l with
 | nil => exact nsE e
 | cons p r ih =>
  obtain ⟨a, b⟩ := p
  rw [List.lookup_cons] at e
  split at e
  ·rename_i q; cases e; rw [beq_iff_eq.mp q]; exact .head _
  ·exact .tail _ (ih e)
section
variable {W : Wd} {β : Nat → Addr} {n : Nat}
theorem lookup_app {α : Type} (k : Str) (m : List (Str × α)) : ∀ l : List (Str × α), (l ++ m).lookup k = (l.lookup k).or (m.lookup k)
 | [] => rfl
 | (a, b) :: l => by rw [List.cons_append, List.lookup_cons, List.lookup_cons, lookup_app k m l]; split <;> rfl
theorem withDflt_get (k : Str) (r : List (Str × Value)) : ∀ sl : List (Str × Value), (withDflt sl r).lookup k = (sl.lookup k).or (r.lookup k) := by
 induction r with
 | nil => exact fun sl => (Option.or_none).symm
 | cons x r ih =>
  obtain ⟨m, d⟩ := x
  intro sl
  unfold withDflt
  rw [ih, List.lookup_cons]
  by_cases q : (sl.lookup m).isNone = true
  ·rw [if_pos q, lookup_app, List.lookup_cons, List.lookup_nil]
   cases e : k == m <;> cases sl.lookup k <;> rfl
  ·rw [if_neg q]
   cases e : k == m with
   | false => rfl
   | true =>
    rw [beq_iff_eq.mp e]
    cases e' : sl.lookup m with
    | none => rw [e'] at q; exact (q rfl).elim
    | some x => rfl
theorem look_eq {α : Type} {a b : Str} {x : α} {l : List (Str × α)} (e : a = b) : ((a, x) :: l).lookup b = some x := by rw [List.lookup_cons, e, beq_self_eq_true]
theorem look_ne {α : Type} {a b : Str} {x : α} {l : List (Str × α)} (e : b ≠ a) : ((a, x) :: l).lookup b = l.lookup b := by rw [List.lookup_cons, beq_eq_false_iff_ne.mpr e]
theorem zip_at (B : Base W) {α : Type} {p : Nat} {X : α} {ps : List Nat} : ∀ {Xs : List α} {i : Nat}, ps.Nodup → ps[i]? = some p → Xs[i]? = some X → ((ps.map W.nm).zip Xs).lookup (W.nm p) = some X := by
 induction ps with
 | nil => exact fun _ e _ => nomatch e
 | cons a r ih =>
  intro Xs i nd e e'
  cases Xs with
  | nil => exact nsE e'
  | cons x Xs =>
   cases i with
   | zero => cases e'; exact look_eq (congrArg W.nm (Option.some.inj e))
   | succ i =>
    have nd := List.nodup_cons.mp nd
    exact (look_ne fun w => nd.1 ((B.inj p a w) ▸ List.mem_of_getElem? e)).trans (ih nd.2 e e')
theorem zip_no (B : Base W) {α : Type} {p : Nat} {ps : List Nat} : ∀ {Xs : List α}, p ∉ ps.take Xs.length → ((ps.map W.nm).zip Xs).lookup (W.nm p) = none := by
 induction ps with
 | nil => exact fun _ => rfl
 | cons a r ih =>
  intro Xs h
  cases Xs with
  | nil => rfl
  | cons x Xs => exact (look_ne fun w => h (by rw [B.inj p a w]; exact .head _)).trans (ih fun q => h (.tail _ q))
theorem kw_at (B : Base W) {p : Nat} {ks : List (Nat × AV)} : ∀ {Vs : List Value}, VRs W β n (ks.map (·.2)) Vs →
  match get? ks p with | some v => ∃ V, ((ks.map (W.nm ·.1)).zip Vs).lookup (W.nm p) = some V ∧ VR W β n v V | none => ((ks.map (W.nm ·.1)).zip Vs).lookup (W.nm p) = none := by
 induction ks with
 | nil => exact fun _ => rfl
 | cons x r ih =>
  obtain ⟨k, v⟩ := x
  intro Vs h
  cases h with
  | cons a b =>
   unfold get?
   rw [List.map_cons, List.zip_cons_cons, List.lookup_cons]
   by_cases q : p = k
   ·subst q
    rw [if_pos rfl, beq_self_eq_true]
    exact ⟨_, rfl, a⟩
   ·rw [if_neg q, beq_eq_false_iff_ne.mpr fun w => q (B.inj _ _ w)]
    exact ih b
noncomputable def tokV : Value → Tok
 | .int _ t => t
 | _ => default
noncomputable def dvB (c : KC) (V : Value) : Bool := match c with
 | .none => V == .none
 | .bool b => V == .bool b
 | .int i => V == .int i (tokV V)
 | .str _ => false
theorem dv_vr {c : KC} {V : Value} (h : dvB c V = true) : VR W β n c.av V := by
 cases c with
 | none => exact beq_iff_eq.mp h
 | bool b => exact beq_iff_eq.mp h
 | int i => exact ⟨_, beq_iff_eq.mp h⟩
 | str _ => exact ftE h
noncomputable def dvsB : List (Nat × KC) → List Value → Bool
 | [], [] => true
 | (_, c) :: r, V :: s => dvB c V && dvsB r s
 | _, _ => false
theorem dvs_len {ds : List (Nat × KC)} : ∀ {Vs : List Value}, dvsB ds Vs = true → ds.length = Vs.length := by
 induction ds with
 | nil => intro Vs h; cases Vs with | nil => rfl | cons => exact ftE h
 | cons _ _ ih => intro Vs h; cases Vs with | nil => cases h | cons => exact congrArg (· + 1) (ih (Bool.and_eq_true_iff.mp h).2)
theorem dvs_at (B : Base W) {p : Nat} {c : KC} {ds : List (Nat × KC)} : ∀ {Vs : List Value}, dvsB ds Vs = true → ds.lookup p = some c → ∃ V, ((ds.map (W.nm ·.1)).zip Vs).lookup (W.nm p) = some V ∧ VR W β n c.av V := by
 induction ds with
 | nil => exact fun _ e => nomatch e
 | cons x r ih =>
  obtain ⟨k, d⟩ := x
  intro Vs h e
  cases Vs with
  | nil => exact ftE h
  | cons V s =>
   have h := Bool.and_eq_true_iff.mp h
   rw [List.lookup_cons] at e
   by_cases q : p = k
   ·rw [beq_iff_eq.mpr q] at e
    exact ⟨V, look_eq (congrArg W.nm q.symm), Option.some.inj e ▸ dv_vr h.1⟩
   ·rw [beq_eq_false_iff_ne.mpr q] at e
    refine xo1_2 (ih h.2 e) fun V' h3 h4 => ?_
    exact ⟨V', (look_ne fun w => q (B.inj _ _ w)).trans h3, h4⟩
theorem bindR_next {ds : List (Nat × KC)} {ks : List (Nat × AV)} {a : Nat} {r : List Nat} {vs : List AV} (e : bindR (a :: r) ds [] ks = some vs) : ∃ v w, vs = v :: w ∧ bindR r ds [] ks = some w ∧ (get? ks a = some v ∨ get? ks a = none ∧ ∃ c, ds.lookup a = some c ∧ v = c.av) := by
 unfold bindR at e
 cases q : get? ks a with
 | some v => rw [q] at e; obtain ⟨w, e', rfl⟩ := Option.map_eq_some_iff.mp e; exact ⟨v, w, rfl, e', .inl rfl⟩
 | none =>
  rw [q] at e
  dsimp only at e
  cases q' : ds.lookup a with
  | some c => rw [q'] at e; obtain ⟨w, e', rfl⟩ := Option.map_eq_some_iff.mp e; exact ⟨_, w, rfl, e', .inr ⟨rfl, c, rfl, rfl⟩⟩
  | none => rw [q'] at e; exact nsE e
theorem bindR_has {ds : List (Nat × KC)} {ks : List (Nat × AV)} {ps : List Nat} : ∀ {xs vs : List AV}, bindR ps ds xs ks = some vs → ∀ p, p ∈ ps → p ∈ ps.take xs.length ∨ get? ks p ≠ none ∨ ds.lookup p ≠ none := by
 induction ps with
 | nil => exact fun _ _ h => nomatch h
 | cons a r ih =>
  intro xs vs e p h
  cases xs with
  | cons v xs =>
   unfold bindR at e
   refine xo1_2 (Option.map_eq_some_iff.mp e) fun w e _ => ?_
   rcases List.mem_cons.mp h with h | h
   ·exact .inl (h ▸ .head _)
   ·exact (ih e p h).imp_left (.tail _)
  | nil =>
   refine xo2_3 (bindR_next e) fun v w e2_ e ev => ?_; clear e2_
   rcases List.mem_cons.mp h with h | h
   ·refine .inr ?_
    rcases ev with ev | ⟨-, c, ev, -⟩
    ·exact .inl (h ▸ ev ▸ nofun)
    ·exact .inr (h ▸ ev ▸ nofun)
   ·exact (ih e p h).imp_left fun q => nomatch q
theorem bindR_vals {ds : List (Nat × KC)} {ks : List (Nat × AV)} {F : Nat → Option Value} : ∀ {ps : List Nat} {xs vs : List AV} {Xs : List Value}, VRs W β n xs Xs → bindR ps ds xs ks = some vs → (∀ (i p : Nat) (X : Value), ps[i]? = some p → Xs[i]? = some X → F p = some X) →
  (∀ p, p ∈ ps.drop xs.length → ∀ v, (get? ks p = some v ∨ get? ks p = none ∧ ∃ c, ds.lookup p = some c ∧ v = c.av) → ∃ V, F p = some V ∧ VR W β n v V) → ∃ Vs, VRs W β n vs Vs ∧ ps.filterMap (fun p => (F p).map (W.nm p, ·)) = (ps.map W.nm).zip Vs := by
 intro ps
 induction ps with
 | nil =>
  intro xs vs Xs hx e _ _
  cases xs with
  | nil => cases e; exact ⟨[], .nil, rfl⟩
  | cons _ _ => exact nsE e
 | cons a r ih =>
  intro xs vs Xs hx e g1 g2
  have fin : ∀ {v V Vs w}, F a = some V → VR W β n v V → VRs W β n w Vs → r.filterMap (fun p => (F p).map (W.nm p, ·)) = (r.map W.nm).zip Vs → ∃ Vs, VRs W β n (v :: w) Vs ∧ (a :: r).filterMap (fun p => (F p).map (W.nm p, ·)) = ((a :: r).map W.nm).zip Vs :=
   fun f1 f2 z1 z2 => ⟨_ :: _, .cons f2 z1, by rw [List.filterMap_cons, f1, z2]; rfl⟩
  cases hx with
  | cons h hs =>
   unfold bindR at e
   refine xo1_2 (Option.map_eq_some_iff.mp e) fun w e' e2_ => ?_; obtain rfl := e2_
   refine xo1_2 (ih hs e' (fun i p X h1 h2 => g1 (i + 1) p X h1 h2) fun p hp => g2 p hp) fun Vs z1 z2 => ?_
   exact fin (g1 0 a _ rfl rfl) h z1 z2
  | nil =>
   obtain ⟨v, w, rfl, e, ev⟩ := bindR_next e
   refine xo1_2 (g2 a (.head _) v ev) fun V f1 f2 => ?_
   refine xo1_2 (ih .nil e (fun i p X h1 h2 => by cases h2) fun p hp => g2 p (.tail _ hp)) fun Vs z1 z2 => ?_
   exact fin f1 f2 z1 z2
theorem kw_ok (B : Base W) {ns : List Str} {ks : List (Nat × AV)} : ∀ {Vs : List Value} {sl : List (Str × Value)}, (ks.map (·.1)).Nodup → (∀ k, k ∈ ks.map (·.1) → W.nm k ∈ ns ∧ sl.lookup (W.nm k) = none) → kwOk ns sl ((ks.map (W.nm ·.1)).zip Vs) = true := by
 induction ks with
 | nil => intro _ _ _ _; unfold kwOk; rfl
 | cons x r ih =>
  intro Vs sl nd h
  cases Vs with
  | nil => unfold kwOk; rfl
  | cons V Vs =>
   have nd := List.nodup_cons.mp nd
   have h0 := h x.1 (.head _)
   rw [List.map_cons, List.zip_cons_cons]
   unfold kwOk
   refine Bool.and_eq_true_iff.mpr ⟨Bool.and_eq_true_iff.mpr ⟨List.contains_iff_mem.mpr h0.1, Option.isNone_iff_eq_none.mpr h0.2⟩, ih nd.2 fun j hj => ⟨(h j (.tail _ hj)).1, ?_⟩⟩
   rw [lookup_app, (h j (.tail _ hj)).2]
   exact look_ne fun w => nd.1 ((B.inj j _ w : j = x.1) ▸ (hj : j ∈ r.map (·.1)) : x.1 ∈ r.map (·.1))
structure ParOk (W : Wd) (K : Frag) (fd : FuncData) (ps : List Nat) (ds : List (Nat × KC)) : Prop where
 par : ∃ as dx, fd.params = ⟨[], as, none, [], [], none, dx⟩ ∧ as.map (·.arg) = ps.map W.nm
 nodup : ps.Nodup
 keys : ps.drop (ps.length - ds.length) = ds.map (·.1)
 vals : ∃ dV, dvsB ds dV = true ∧ (fd.defaults = .none ∧ dV = [] ∨ ∃ T o n, fd.defaults = .ref T ∧ K.lookup T = some o ∧ o.data = .seq dV.toArray n)
theorem par_bind (B : Base W) {fd : FuncData} {ps : List Nat} {ds : List (Nat × KC)} (p : ParOk W W.K fd ps ds) {xs vs : List AV} {Xs : List Value} {ks : List (Nat × AV)} {Ks : List (Str × Value)} {s : Shared} (hst : W.hb.StaysIn s.heap)
  (hs : (ks.map (·.1)).Nodup ∧ ∀ k, k ∈ ks.map (·.1) → k ∈ ps.drop xs.length) (hn : xs.length ≤ ps.length) (hx : VRs W β n xs Xs) (hy : KRs W β n ks Ks) (hv : bindR ps ds xs ks = some vs) : ∃ Vs, VRs W β n vs Vs ∧ BindsTo s fd ⟨Xs, Ks⟩ ((ps.map W.nm).zip Vs) := by
 obtain ⟨⟨as, dx, hp, ha⟩, nd, hkeys, dV, hd, hdef⟩ := p
 refine xo1_2 hy fun Us hU e2_ => ?_; clear hy; obtain rfl := e2_
 have hlen : as.length = ps.length := by simpa using congrArg List.length ha
 have hl := hx.length
 have dl := dvs_len hd
 have dle : ds.length ≤ ps.length := by have := congrArg List.length hkeys; simp at this; omega
 have nt : ∀ p, p ∈ ps.drop xs.length → p ∉ ps.take Xs.length := fun p h1 h2 => by
  rw [← List.take_append_drop xs.length ps, List.nodup_append] at nd
  exact nd.2.2 _ (hl ▸ h2) _ h1 rfl
 have dz : ((ps.map W.nm).drop ((ps.map W.nm).length - dV.length)).zip dV = (ds.map (W.nm ·.1)).zip dV := by
  rw [List.length_map, ← dl, ← List.map_drop, hkeys, List.map_map]; rfl
 have L1 : ∀ k, (slotsOf (ps.map W.nm) Xs ((ks.map (W.nm ·.1)).zip Us)).lookup k = (((ps.map W.nm).zip Xs).lookup k).or (((ks.map (W.nm ·.1)).zip Us).lookup k) := fun k => lookup_app _ _ _
 obtain ⟨Vs, z1, z2⟩ := bindR_vals (F := fun p => (withDflt (slotsOf (ps.map W.nm) Xs ((ks.map (W.nm ·.1)).zip Us)) ((ds.map (W.nm ·.1)).zip dV)).lookup (W.nm p)) hx hv
  (fun i p X h1 h2 => by rw [withDflt_get, L1, zip_at B nd h1 h2]; rfl)
  (fun p h1 v h2 => by
   rw [withDflt_get, L1, zip_no B (nt p h1)]
   have z := kw_at B (p := p) hU
   rcases h2 with h2 | ⟨h2, c, h3, rfl⟩
   ·rw [h2] at z
    refine xo1_2 z fun V e1 e2 => ?_; clear z
    exact ⟨V, by rw [e1]; rfl, e2⟩
   ·rw [h2] at z
    obtain ⟨V, e1, e2⟩ := dvs_at B hd h3
    exact ⟨V, by rw [z, e1]; rfl, e2⟩)
 refine ⟨Vs, z1, ?_⟩
 have bo : boundOf (ps.map W.nm) dV Xs ((ks.map (W.nm ·.1)).zip Us) = (ps.map W.nm).zip Vs := by
  rw [← z2]
  unfold boundOf
  rw [dz, List.filterMap_map]
  rfl
 rw [← bo]
 refine bind_gen hp ha ?_ ?_ (by show Xs.length ≤ _; rw [List.length_map]; omega) (by rw [List.length_map]; omega) ?_
 ·rcases hdef with ⟨h1, rfl⟩ | ⟨T, o, m, h1, h2, h3⟩
  ·exact dfl_none h1
  ·exact dfl_ref h1 (hst _ _ (B.inK _ _ h2)) h3
 ·exact kw_ok B hs.1 fun k hk => ⟨List.mem_map_of_mem (List.mem_of_mem_drop (hs.2 k hk)), zip_no B (nt k (hs.2 k hk))⟩
 ·rw [List.length_map, List.filter_eq_nil_iff]
  intro q hq e
  rw [← List.map_take] at hq
  refine xo1_2 (List.mem_map.mp hq) fun p hp e2_ => ?_; obtain rfl := e2_
  rw [L1, Option.isNone_iff_eq_none] at e
  rcases bindR_has hv p (List.mem_of_mem_take hp) with h | h | h
  ·refine xo1_1 (List.mem_iff_getElem?.mp h) fun i hi => ?_
   rw [List.getElem?_take] at hi
   split at hi
   ·rename_i q
    have : Xs[i]? = some (Xs[i]'(by omega)) := List.getElem?_eq_getElem (by omega)
    rw [zip_at B nd hi this] at e
    exact snE e
   ·exact nsE hi
  ·cases q : get? ks p with
   | none => exact h q
   | some v =>
    have z := kw_at B (p := p) hU
    rw [q] at z
    refine xo1_2 z fun V e1 _ => ?_; clear z
    rw [e1] at e
    cases w : ((ps.map W.nm).zip Xs).lookup (W.nm p) <;> rw [w] at e <;> exact snE e
  ·refine xo1_1 (Option.ne_none_iff_exists'.mp h) fun c hc => ?_
   have : p ∈ ds.map (·.1) := List.mem_map.mpr ⟨_, mem_of_lookup hc, rfl⟩
   rw [← hkeys] at this
   rw [← List.take_append_drop (ps.length - ds.length) ps, List.nodup_append] at nd
   exact nd.2.2 _ (dl ▸ hp) _ this rfl
end
end Mine
end
section
open PySem PySem.W PyProof.Rows PySem.Calls
namespace Mine
set_option genInjectivity false in
set_option genSizeOf false in
structure Tab where
 names : List Str
 K : Params → Frag
 fns : List Fn
 fas : List Addr
 fds : List FuncData
 kds : List (List (Nat × NameKind))
 scs : List Scope
 gks : List (Nat × GK)
 mes : List (Nat × List (Nat × MK))
 cas : List (Nat × Addr)
 gvs : List (Nat × Value)
 exs : List (Nat × Addr)
 tys : List (Nat × String)
 top : Addr
 shapes : List (Nat × Nat × List Nat)
 rais : List Nat
 pct : List Nat
 init : Nat
 eqN : Nat
 ltN : Nat
 append : Nat
 pop : Nat
 remove : Nat
 indexError : Nat
 keyError : Nat
 intN : Nat
noncomputable def fn0 : Fn := ⟨[], [], .nil⟩
noncomputable def fd0' : FuncData := default
namespace Tab
noncomputable def meF (T : Tab) (c a : Nat) : MK := (((T.mes.lookup c).getD []).lookup a).getD .none
noncomputable def sig (T : Tab) : Sig where
 gk := fun i => (T.gks.lookup i).getD .other
 me := T.meF
 fn := fun i => T.fns.getD i fn0
 init := T.init
 shapes := T.shapes
 eqN := T.eqN
 ltN := T.ltN
 append := T.append
 pop := T.pop
 remove := T.remove
 indexError := T.indexError
 keyError := T.keyError
 lf := 100000
 pct := T.pct
 intN := T.intN
 excs := T.exs.map (·.1) ++ T.tys.map (·.1)
 rais := T.rais
noncomputable def wd (T : Tab) (pr : Program) (w : World) (hb : Heap) (ro : Obj) : Wd :=
 { prog := pr, w := w, K := T.K w.params, hb := hb, nm := nmOf T.names, sc := fun i => T.scs.getD i default, g := T.sig, gl := fun i => (T.gvs.lookup i).isSome, gv := fun i => (T.gvs.lookup i).getD .none, fa := fun f => T.fas.getD f 0, ca := fun c => (T.cas.lookup c).getD 0, scr := ro }
noncomputable def propB (T : Tab) (K : Frag) (q : Addr) (f g : Nat) : Bool := (specialIn K (.ref q) "__get__" == some (some (.builtin "property.__get__"))) && (takesIn K (.ref q) == some true) && (recIn K q "property" == some (.ref (T.fas.getD f 0) :: .ref (T.fas.getD g 0) :: ((recIn K q "property").getD []).drop 2)) && (typeIn K (.ref q) == some (.type "property"))
noncomputable def refV : Option (Option Value) → Addr
 | some (some (.ref a)) => a
 | _ => 0
noncomputable def memB (T : Tab) (K : Frag) (C : Addr) (p : Nat × MK) : Bool := match p.2 with
 | .none => true
 | .data => findIn K (.ref C) (nmOf T.names p.1) == some none
 | .fn f => (findIn K (.ref C) (nmOf T.names p.1) == some (some (.ref (T.fas.getD f 0)))) && isFn K (.ref (T.fas.getD f 0)) && keepIn K (.ref (T.fas.getD f 0))
 | .prop f g => (findIn K (.ref C) (nmOf T.names p.1) == some (some (.ref (refV (findIn K (.ref C) (nmOf T.names p.1)))))) && T.propB K (refV (findIn K (.ref C) (nmOf T.names p.1))) f g
noncomputable def clsB (T : Tab) (K : Frag) (p : Nat × Addr) : Bool :=
 (T.gvs.lookup p.1 == some (.ref p.2)) && (T.cas.lookup p.1 == some p.2) && plainGet K p.2 (nmOf T.names 0) && hasDictIn K p.2 && plainOver K p.2 && (findIn K (.ref p.2) "__setattr__" == some (some (.builtin "object.__setattr__"))) && makesIn K p.2 && keepIn K (.ref p.2) &&
 ((T.mes.lookup p.1).getD []).all (T.memB K p.2)
noncomputable def gkB (T : Tab) (K : Frag) (p : Nat × GK) : Bool := match p.2 with
 | .fn f => (T.gvs.lookup p.1 == some (.ref (T.fas.getD f 0))) && keepIn K (.ref (T.fas.getD f 0))
 | .cls => (T.cas.lookup p.1).isSome
 | .bi b => T.gvs.lookup p.1 == some (biV b)
 | .other => true
noncomputable def globB (T : Tab) (K : Frag) (p : Nat × Value) : Bool := (nsIn K mainGlobals (nmOf T.names p.1) == some (some p.2)) || ((nsIn K mainGlobals (nmOf T.names p.1) == some none) && (bootBuiltins (nmOf T.names p.1) == some p.2))
noncomputable def excB (T : Tab) (K : Frag) (p : Nat × Addr) : Bool := ownXB K p.2 T.top && (T.gvs.lookup p.1 == some (.ref p.2)) && decide (p.2 ≠ T.top) && (T.exs.all fun q => decide (p.2 = q.2) == decide (p.1 = q.1)) && T.tys.all fun q => decide (p.1 ≠ q.1)
noncomputable def tyB (T : Tab) (p : Nat × String) : Bool := (["IndexError", "KeyError", "TypeError", "ValueError"].contains p.2) && (T.gvs.lookup p.1 == some (.type p.2)) && T.tys.all fun q => decide (p.2 = q.2) == decide (p.1 = q.1)
noncomputable def raiB (T : Tab) (c : Nat) : Bool := (T.exs.lookup c).isSome || (T.tys.lookup c == some "TypeError") || (T.tys.lookup c == some "ValueError")
noncomputable def wordsB (T : Tab) : Bool := namesOk T.names ["__debug__", "super", "__name__"] && (nmOf T.names T.eqN == "__eq__") && (nmOf T.names T.ltN == "__lt__") && (nmOf T.names T.append == "append") && (nmOf T.names T.pop == "pop") && (nmOf T.names T.remove == "remove") && (nmOf T.names T.init == "__init__") &&
 (T.gvs.lookup T.keyError == some (.type "KeyError")) && (T.gvs.lookup T.indexError == some (.type "IndexError")) && (T.gvs.lookup T.intN == some (.type "int"))
noncomputable def seqOf (d : Data) (f : Array Value → Bool) : Bool := match d with
 | .seq xs _ => f xs
 | _ => false
theorem seqOf_inv {d : Data} {f : Array Value → Bool} (h : seqOf d f = true) : ∃ xs n, d = .seq xs n ∧ f xs = true := by
 cases d <;> first | exact ⟨_, _, rfl, h⟩ | exact ftE h
noncomputable def defB (K : Frag) (fd : FuncData) (ds : List (Nat × KC)) : Bool := ((fd.defaults == .none) && ds.isEmpty) || ((fd.defaults == .ref (refV (some (some fd.defaults)))) && match K.lookup (refV (some (some fd.defaults))) with
 | some o => seqOf o.data fun xs => dvsB ds xs.toList
 | none => false)
noncomputable def fnB (T : Tab) (K : Frag) (f : Nat) : Bool :=
 let fd := T.fds.getD f default
 let kd := T.kds.getD f []
 let g := T.fns.getD f fn0
 codeIn K fd.code fd.qualname && (fd.globals == mainGlobals) && (fd.builtins == builtinsNs) && decide (fd.scope.kind = .function) && !fd.scope.isCoroutine && !fd.scope.isGenerator && kd.all (fun x => decide (x.2 ≠ .cell)) && g.params.all (fun p => kd.lookup p == some .local) &&
 decide g.params.Nodup && g.body.wf (fun i => (T.gvs.lookup i).isSome) T.sig kd && fd.params.posonlyargs.isEmpty && fd.params.vararg.isNone && fd.params.kwonlyargs.isEmpty && fd.params.kw_defaults.isEmpty && fd.params.kwarg.isNone &&
 decide (g.params.drop (g.params.length - g.dflts.length) = g.dflts.map (·.1)) && defB K fd g.dflts
noncomputable def shB (T : Tab) (x : Nat × Nat × List Nat) : Bool :=
 let ps := (T.fns.getD x.1 fn0).params
 decide (x.1 < T.fns.length) && decide (x.2.1 ≤ ps.length) && decide x.2.2.Nodup && x.2.2.all fun k => (ps.drop x.2.1).contains k
noncomputable def ok (T : Tab) (P : Params) : Bool := T.cas.all (T.clsB (T.K P)) && T.mes.all (fun x => (T.cas.lookup x.1).isSome) && T.gks.all (T.gkB (T.K P)) && T.gvs.all (T.globB (T.K P)) && T.exs.all (T.excB (T.K P)) && T.tys.all T.tyB && T.rais.all T.raiB && T.wordsB &&
 T.shapes.all (fun x => T.shB x && T.fnB (T.K P) x.1)
structure Eqs (T : Tab) (P : Params) : Prop where
 at_ : (T.fas.map fun a => ((T.K P).lookup a).map (·.data)) = T.fds.map fun d => some (.func d)
 body : (T.fds.map fun d => (d.body, d.scope.names, d.params.args.map (·.arg))) = (T.fns.zip T.kds).map fun x => (.stmts (x.1.body.dec (nmOf T.names) fun i => T.scs.getD i default), x.2.map fun y => (nmOf T.names y.1, y.2), x.1.params.map (nmOf T.names))
 len : T.fns.length = T.kds.length
end Tab
theorem and_l {a b : Bool} (h : (a && b) = true) : a = true := (Bool.and_eq_true_iff.mp h).1
theorem and_r {a b : Bool} (h : (a && b) = true) : b = true := (Bool.and_eq_true_iff.mp h).2
theorem and_both {a b : Bool} (h : (a && b) = true) : a = true ∧ b = true := Bool.and_eq_true_iff.mp h
theorem not_t {b : Bool} (h : (!b) = true) : b = false := by cases b <;> first | rfl | exact ftE h
theorem all_mem {α : Type} {l : List α} {f : α → Bool} (h : l.all f = true) {x : α} (hx : x ∈ l) : f x = true := List.all_eq_true.mp h x hx
theorem lookup_some {α : Type} {l : List (Nat × α)} {k : Nat} {d x : α} (e : (l.lookup k).getD d = x) (hx : x ≠ d) : (k, x) ∈ l := by
 cases q : l.lookup k with
 | none => rw [q] at e; exact (hx e.symm).elim
 | some y => rw [q] at e; cases e; exact mem_of_lookup q
section
variable {T : Tab} {pr : Program} {w : World} {hb : Heap} {ro : Obj} (h : T.ok w.params = true)
include h
theorem Tab.parts : (∀ p ∈ T.cas, T.clsB (T.K w.params) p = true) ∧ (∀ x ∈ T.mes, (T.cas.lookup x.1).isSome = true) ∧ (∀ p ∈ T.gks, T.gkB (T.K w.params) p = true) ∧ (∀ p ∈ T.gvs, T.globB (T.K w.params) p = true) ∧ (∀ p ∈ T.exs, T.excB (T.K w.params) p = true) ∧
  (∀ p ∈ T.tys, T.tyB p = true) ∧ (∀ c ∈ T.rais, T.raiB c = true) ∧ T.wordsB = true ∧ ∀ x ∈ T.shapes, T.shB x = true ∧ T.fnB (T.K w.params) x.1 = true := by
 unfold Tab.ok at h
 exact ⟨fun _ => all_mem (and_l (and_l (and_l (and_l (and_l (and_l (and_l (and_l h)))))))), fun _ => all_mem (and_r (and_l (and_l (and_l (and_l (and_l (and_l (and_l h)))))))), fun _ => all_mem (and_r (and_l (and_l (and_l (and_l (and_l (and_l h))))))), fun _ => all_mem (and_r (and_l (and_l (and_l (and_l (and_l h)))))), fun _ => all_mem (and_r (and_l (and_l (and_l (and_l h))))), fun _ => all_mem (and_r (and_l (and_l (and_l h)))), fun _ => all_mem (and_r (and_l (and_l h))), (and_r (and_l h)), fun x hx => and_both (all_mem (and_r h) hx)⟩
theorem Tab.words : namesOk T.names ["__debug__", "super", "__name__"] = true ∧ nmOf T.names T.eqN = "__eq__" ∧ nmOf T.names T.ltN = "__lt__" ∧ nmOf T.names T.append = "append" ∧ nmOf T.names T.pop = "pop" ∧ nmOf T.names T.remove = "remove" ∧ nmOf T.names T.init = "__init__" ∧
  T.gvs.lookup T.keyError = some (.type "KeyError") ∧ T.gvs.lookup T.indexError = some (.type "IndexError") ∧ T.gvs.lookup T.intN = some (.type "int") := by
 have h := (Tab.parts h).2.2.2.2.2.2.2.1
 unfold Tab.wordsB at h
 exact ⟨(and_l (and_l (and_l (and_l (and_l (and_l (and_l (and_l (and_l h))))))))), beq_iff_eq.mp (and_r (and_l (and_l (and_l (and_l (and_l (and_l (and_l (and_l h))))))))), beq_iff_eq.mp (and_r (and_l (and_l (and_l (and_l (and_l (and_l (and_l h)))))))), beq_iff_eq.mp (and_r (and_l (and_l (and_l (and_l (and_l (and_l h))))))), beq_iff_eq.mp (and_r (and_l (and_l (and_l (and_l (and_l h)))))), beq_iff_eq.mp (and_r (and_l (and_l (and_l (and_l h))))), beq_iff_eq.mp (and_r (and_l (and_l (and_l h)))), beq_iff_eq.mp (and_r (and_l (and_l h))), beq_iff_eq.mp (and_r (and_l h)), beq_iff_eq.mp (and_r h)⟩
theorem Tab.meMem {c a : Nat} {x : MK} (e : T.sig.me c a = x) (hx : x ≠ .none) : (a, x) ∈ (T.mes.lookup c).getD [] ∧ ∃ p ∈ T.cas, p.1 = c := by
 have m := lookup_some e hx
 refine ⟨m, ?_⟩
 cases q : T.mes.lookup c with
 | none => rw [q] at m; exact absurd m nofun
 | some l =>
  refine xo1_1 (Option.isSome_iff_exists.mp ((Tab.parts h).2.1 _ (mem_of_lookup q))) fun x e => ?_
  exact ⟨_, mem_of_lookup e, rfl⟩
theorem Tab.clsOf {p : Nat × Addr} (hp : p ∈ T.cas) : ClsOk (T.wd pr w hb ro) p.1 ∧ keepIn (T.K w.params) (.ref p.2) = true ∧ (T.wd pr w hb ro).ca p.1 = p.2 ∧ ∀ a f, T.sig.me p.1 a = .fn f → keepIn (T.K w.params) (.ref (T.fas.getD f 0)) = true := by
 have z := (Tab.parts h).1 p hp
 unfold Tab.clsB at z
 have z0 := beq_iff_eq.mp (and_r (and_l (and_l (and_l (and_l (and_l (and_l (and_l z))))))))
 have hc : (T.wd pr w hb ro).ca p.1 = p.2 := by show (T.cas.lookup p.1).getD 0 = _; rw [z0]; rfl
 have mem : ∀ a x, T.sig.me p.1 a = x → x ≠ .none → T.memB (T.K w.params) p.2 (a, x) = true := fun a x e hx => all_mem (and_r z) (Tab.meMem h e hx).1
 have mf : ∀ a f, T.sig.me p.1 a = .fn f → (findIn (T.K w.params) (.ref p.2) (nmOf T.names a) = some (some (.ref (T.fas.getD f 0))) ∧ isFn (T.K w.params) (.ref (T.fas.getD f 0)) = true) ∧ keepIn (T.K w.params) (.ref (T.fas.getD f 0)) = true := fun a f e => by
  have := mem a _ e nofun
  exact ⟨⟨beq_iff_eq.mp (and_l (and_l this)), and_r (and_l this)⟩, and_r this⟩
 refine ⟨?_, (and_r (and_l z)), hc, fun a f e => (mf a f e).2⟩
 constructor
 ·rw [hc]; show (T.gvs.lookup p.1).getD .none = _; rw [beq_iff_eq.mp (and_l (and_l (and_l (and_l (and_l (and_l (and_l (and_l z))))))))]; rfl
 ·rw [hc]; exact fun a => (and_r (and_l (and_l (and_l (and_l (and_l (and_l z)))))))
 ·rw [hc]; exact (and_r (and_l (and_l (and_l (and_l (and_l z))))))
 ·rw [hc]; exact (and_r (and_l (and_l (and_l (and_l z)))))
 ·rw [hc]; exact beq_iff_eq.mp (and_r (and_l (and_l (and_l z))))
 ·rw [hc]; exact fun a e => beq_iff_eq.mp (mem a _ e nofun)
 ·rw [hc]; exact fun a f e => (mf a f e).1
 ·rw [hc]
  intro a f g e
  have := mem a _ e nofun
  have this := Bool.and_eq_true_iff.mp this
  have a := Bool.and_eq_true_iff.mp this.2
  have b := Bool.and_eq_true_iff.mp a.1
  have c := Bool.and_eq_true_iff.mp b.1
  exact ⟨_, _, beq_iff_eq.mp this.1, beq_iff_eq.mp c.1, beq_iff_eq.mp c.2, beq_iff_eq.mp b.2, beq_iff_eq.mp a.2⟩
 ·rw [hc]; exact (and_r (and_l (and_l z)))
omit h in
theorem Tab.casOf {c : Nat} (e : (T.cas.lookup c).isSome = true) : ∃ p ∈ T.cas, p.1 = c := by
 refine xo1_1 (Option.isSome_iff_exists.mp e) fun x e => ?_
 exact ⟨_, mem_of_lookup e, rfl⟩
theorem Tab.clss : Clss (T.wd pr w hb ro) := fun c hc => by
 have : ∃ p ∈ T.cas, p.1 = c := by
  rcases hc with ⟨a, ha⟩ | hc
  ·exact (Tab.meMem h rfl ha).2
  ·exact Tab.casOf ((Tab.parts h).2.2.1 _ (lookup_some hc nofun))
 refine xo1_2 this fun p hp e2_ => ?_; clear this; obtain rfl := e2_
 exact (Tab.clsOf h hp).1
theorem Tab.gkFn {k f : Nat} (e : T.sig.gk k = .fn f) : T.gvs.lookup k = some (.ref (T.fas.getD f 0)) ∧ keepIn (T.K w.params) (.ref (T.fas.getD f 0)) = true := by
 have := (Tab.parts h).2.2.1 _ (lookup_some e nofun)
 simpa only [Tab.gkB, Bool.and_eq_true, beq_iff_eq] using this
theorem Tab.funs : Funs (T.wd pr w hb ro) where
 gv k f e := by show (T.gvs.lookup k).getD .none = _; rw [(Tab.gkFn h e).1]; rfl
 keep k f e := (Tab.gkFn h e).2
 keepC k e := by
  refine xo1_2 (Tab.casOf ((Tab.parts h).2.2.1 _ (lookup_some e nofun))) fun p hp e2_ => ?_; obtain rfl := e2_
  refine xo0_4 (Tab.clsOf (pr := pr) (hb := hb) (ro := ro) h hp) fun _ z1 z2 _ => ?_
  rw [z2]; exact z1
 keepM c a f e := by
  refine xo1_2 ((Tab.meMem h e nofun).2) fun p hp e2_ => ?_; obtain rfl := e2_
  exact (Tab.clsOf (pr := pr) (hb := hb) (ro := ro) h hp).2.2.2 a f e
 init := (Tab.words h).2.2.2.2.2.2.1
theorem Tab.base {mg mb : Str → Option Value} (hB : (T.K w.params).In hb) (hl : hb.NoLimit) (hg : hb.Ns mainGlobals mg) (hn : hb.Ns builtinsNs mb) (hbb : ∀ x : Str, x ≠ "__name__" → mb x = bootBuiltins x) : Base (T.wd pr w hb ro) where
 inK := hB
 lim := hl
 inj := nm_inj (Tab.words h).1
 dbg i := nm_odd (Tab.words h).1 i (by decide) (by decide +kernel)
 sup i := by
  show (!(nmOf T.names i == ("super" : Str))) = true
  rw [nm_odd (Tab.words h).1 i (b := ("super" : Str)) (by decide) (by decide +kernel)]; rfl
 ns := ⟨mg, mb, hg, hn, fun i hi => by
  refine xo1_1 (Option.isSome_iff_exists.mp hi) fun v hv => ?_
  have e : (T.wd pr w hb ro).gv i = v := by show (T.gvs.lookup i).getD .none = v; rw [hv]; rfl
  rw [e]
  have g := (Tab.parts h).2.2.2.1 _ (mem_of_lookup hv)
  rcases Bool.or_eq_true_iff.mp g with g | g
  ·exact .inl (mg_of hB hg (beq_iff_eq.mp g))
  ·refine xo0_2 (Bool.and_eq_true_iff.mp g) fun g1 g2 => ?_
   refine .inr ⟨ns_none_of hB hg (beq_iff_eq.mp g1), (hbb _ ?_).trans (beq_iff_eq.mp g2)⟩
   exact beq_eq_false_iff_ne.mp (nm_odd (Tab.words h).1 i (b := ("__name__" : Str)) (by decide) (by decide +kernel))⟩
theorem Tab.wordsOk (hsm : hb.get? sysModules ≠ none) (hp : ∀ k ∈ T.pct, ∀ (prog : Program) (w : World) (A : Around) (E : Value → Shared → Prop) (s : Shared) (t u : Tok) (n : Int) (Q : Value → Shared → Prop), 0 ≤ n → n < 1000000000 →
  (∀ y t' k, Q (.str y t') { s with toks := k }) → wpAny (model prog w) A (binaryOp .Mod (.str (nmOf T.names k) t) (.int n u)) Q E s) : Words (T.wd pr w hb ro) := by
 obtain ⟨z, z1, z2, z3, z4, z5, z6, z7, z8, z9⟩ := Tab.words h
 exact ⟨by show (T.gvs.lookup T.keyError).getD .none = _; rw [z7]; rfl, by show (T.gvs.lookup T.indexError).getD .none = _; rw [z8]; rfl, hsm, z1, z2,
  fun k b e => by
   have := (Tab.parts h).2.2.1 _ (lookup_some e nofun)
   show (T.gvs.lookup k).getD .none = _
   rw [beq_iff_eq.mp this]; rfl,
  by show (T.gvs.lookup T.intN).getD .none = _; rw [z9]; rfl, z3, z4, z5, hp, nm_cps z⟩
theorem Tab.excs {c : Nat} (hc : c ∈ T.sig.excs) : (∃ a, (c, a) ∈ T.exs ∧ (T.wd pr w hb ro).gv c = .ref a) ∨ ∃ U, (c, U) ∈ T.tys ∧ (T.wd pr w hb ro).gv c = .type U := by
 have hc : c ∈ T.exs.map (·.1) ++ T.tys.map (·.1) := hc
 rcases List.mem_append.mp hc with hc | hc
 ·obtain ⟨⟨c, a⟩, hp, rfl⟩ := List.mem_map.mp hc
  have z := (Tab.parts h).2.2.2.2.1 _ hp
  simp only [Tab.excB, Bool.and_eq_true, beq_iff_eq] at z
  exact .inl ⟨a, hp, by show (T.gvs.lookup c).getD .none = _; rw [z.1.1.1.2]; rfl⟩
 ·obtain ⟨⟨c, a⟩, hp, rfl⟩ := List.mem_map.mp hc
  have z := (Tab.parts h).2.2.2.2.2.1 _ hp
  simp only [Tab.tyB, Bool.and_eq_true, beq_iff_eq] at z
  exact .inr ⟨a, hp, by show (T.gvs.lookup c).getD .none = _; rw [z.1.2]; rfl⟩
theorem Tab.own {c : Nat} {a : Addr} (hB : (T.K w.params).In hb) (hp : (c, a) ∈ T.exs) : OwnX hb a T.top ∧ a ≠ T.top ∧ (∀ d b, (d, b) ∈ T.exs → decide (a = b) = decide (c = d)) ∧ ∀ d U, (d, U) ∈ T.tys → c ≠ d := by
 have z := (Tab.parts h).2.2.2.2.1 _ hp
 simp only [Tab.excB, Bool.and_eq_true, List.all_eq_true, decide_eq_true_eq, beq_iff_eq] at z
 exact ⟨ownX_of hB z.1.1.1.1, z.1.1.2, fun d b h => z.1.2 _ h, fun d U h => z.2 _ h⟩
theorem Tab.ty {c : Nat} {U : String} (hp : (c, U) ∈ T.tys) : U ∈ ["IndexError", "KeyError", "TypeError", "ValueError"] ∧ ∀ d V, (d, V) ∈ T.tys → decide (U = V) = decide (c = d) := by
 have z := (Tab.parts h).2.2.2.2.2.1 _ hp
 simp only [Tab.tyB, Bool.and_eq_true, List.all_eq_true, beq_iff_eq, List.contains_iff_mem] at z
 exact ⟨z.1.1, fun d V h => z.2 _ h⟩
omit h in
theorem four {p : String → Prop} (a : p "IndexError") (b : p "KeyError") (c : p "TypeError") (d : p "ValueError") {U : String} (h : U ∈ ["IndexError", "KeyError", "TypeError", "ValueError"]) : p U := by
 simp only [List.mem_cons, List.not_mem_nil, or_false] at h
 rcases h with rfl | rfl | rfl | rfl <;> assumption
noncomputable def subP (U : Value) (V : Value) (b : Bool) : Prop := isSubtype U V = pure b
noncomputable def TyX (U : String) : Prop := (subP (.type U) (.type "BaseException") true ∧ subP (.type ((Manifest.find? U).elim "type" fun x => x.metatype)) (.type "tuple") false ∧ ∀ D, subP (.type U) (.ref D) false) ∧
  (∀ a, (Value.ref a :: bmX).contains (.type U) = false) ∧ ∀ {V}, V ∈ ["IndexError", "KeyError", "TypeError", "ValueError"] → subP (.type U) (.type V) (decide (U = V))
omit h in
theorem subP.of {U : String} {V : Value} {b : Bool} (e : (match fastBuiltinMro U with | some mro => pure (mro.contains V) | none => unsupported ("internal:unknown-type:" ++ U)) = (pure b : Sem Bool)) : subP (.type U) V b := by unfold subP; rw [isSubtype_type]; exact e
omit h in
theorem fourB {U : String} (a : subP (.type U) (.type "IndexError") (decide (U = "IndexError"))) (b : subP (.type U) (.type "KeyError") (decide (U = "KeyError"))) (c : subP (.type U) (.type "TypeError") (decide (U = "TypeError"))) (d : subP (.type U) (.type "ValueError") (decide (U = "ValueError"))) {V : String} (h : V ∈ ["IndexError", "KeyError", "TypeError", "ValueError"]) :
  subP (.type U) (.type V) (decide (U = V)) := four (p := fun V => subP (.type U) (.type V) (decide (U = V))) a b c d h
omit h in
theorem tyX {U : String} (h : U ∈ ["IndexError", "KeyError", "TypeError", "ValueError"]) : TyX U := by
 refine four (p := TyX) ?_ ?_ ?_ ?_ h <;>
 exact ⟨⟨.of (by kernel_rfl), .of (by kernel_rfl), fun D => .of (by kernel_rfl)⟩, fun a => by kernel_rfl, fourB (.of (by kernel_rfl)) (.of (by kernel_rfl)) (.of (by kernel_rfl)) (.of (by kernel_rfl))⟩
theorem Tab.exms (hB : (T.K w.params).In hb) : Exms (T.wd pr w hb ro) := fun c d hc hd M A E s e o Q hs he ho hv hq => by
 rcases Tab.excs (pr := pr) (w := w) (hb := hb) (ro := ro) h hc with ⟨a, h1, h2⟩ | ⟨U, h1, h2⟩ <;> rcases Tab.excs (pr := pr) (w := w) (hb := hb) (ro := ro) h hd with ⟨b, g1, g2⟩ | ⟨V, g1, g2⟩ <;> rw [g2] <;> rw [h2] at ho
 ·refine xo0_4 (Tab.own h hB h1) fun z1 z2 z3 _ => ?_
  refine xo0_3 (Tab.own h hB g1) fun y1 y2 _ => ?_
  exact (z1.keeps hs).matches (y1.keeps hs) (fun _ q => y2 q.symm) he ho ((z3 _ _ g1) ▸ hq)
 ·obtain ⟨⟨t1, t2, t3⟩, t4, _⟩ := tyX (Tab.ty h g1).1
  refine xo0_4 (Tab.own h hB h1) fun z1 z2 z3 z4 => ?_
  obtain ⟨N, nm, q, bs, hdct, sn, sub, ab, col, dd, k0, k1, k2, k3, k5, mN, hC, -⟩ := z1.keeps hs
  rw [decide_eq_false (z4 _ _ g1)] at hq
  exact wpAny_excMatches_sub_type hC he ho t1 t2 (by rw [t4]; exact hq)
 ·obtain ⟨⟨t1, t2, t3⟩, t4, _⟩ := tyX (Tab.ty h h1).1
  refine xo0_4 (Tab.own h hB g1) fun z1 z2 z3 z4 => ?_
  rw [decide_eq_false fun q => z4 _ _ h1 q.symm] at hq
  exact (z1.keeps hs).matches_type ⟨o, he, ho⟩ (t3 _) hq
 ·refine xo0_2 (Tab.ty h h1) fun z1 z2 => ?_
  refine xo0_2 (Tab.ty h g1) fun y1 y2 => ?_
  obtain ⟨⟨t1, t2, t3⟩, t4, _⟩ := tyX y1
  exact wpAny_excMatches_type ⟨o, he, ho⟩ t1 t2 ((z2 _ _ g1) ▸ (tyX z1).2.2 y1) hq
theorem Tab.excOk (hB : (T.K w.params).In hb) : ∀ c, c ∈ T.sig.rais → ExcOk (T.wd pr w hb ro) c := fun c hc => by
 have z := (Tab.parts h).2.2.2.2.2.2.1 c hc
 simp only [Tab.raiB, Bool.or_eq_true, beq_iff_eq, or_assoc] at z
 rcases z with z | z
 ·refine xo1_1 (Option.isSome_iff_exists.mp z) fun a z => ?_
  have h1 := mem_of_lookup z
  have X := (Tab.own h hB h1).1
  have h2 : (T.wd pr w hb ro).gv c = .ref a := by
   have z := (Tab.parts h).2.2.2.2.1 _ h1
   simp only [Tab.excB, Bool.and_eq_true, beq_iff_eq] at z
   show (T.gvs.lookup c).getD .none = _; rw [z.1.1.1.2]; rfl
  constructor <;> rw [h2]
  ·exact fun M h k => ⟨.machine, .inr (.inl rfl), OwnX.keeper (s := ⟨h, #[], {}, 0, {}⟩) (X.keeps k) M⟩
  ·exact fun A E s V Q k hq => (X.keeps k).make hq
  ·exact fun A E s e t Q k he h => (X.keeps k).raise he h
 ·obtain ⟨U, h1, ⟨n, i, Z1⟩, Z2⟩ : ∃ U, (c, U) ∈ T.tys ∧ (∃ n i, ExcCallFacts U n i) ∧ ExcRaiseFacts U := by
   rcases z with z | z
   ·exact ⟨_, mem_of_lookup z, ⟨_, _, F.excCall_TypeError⟩, F.excRaise_TypeError⟩
   ·exact ⟨_, mem_of_lookup z, ⟨_, _, F.excCall_ValueError⟩, F.excRaise_ValueError⟩
  have h2 : (T.wd pr w hb ro).gv c = .type U := by
   have z := (Tab.parts h).2.2.2.2.2.1 _ h1
   simp only [Tab.tyB, Bool.and_eq_true, beq_iff_eq] at z
   show (T.gvs.lookup c).getD .none = _; rw [z.1.2]; rfl
  constructor <;> rw [h2]
  ·exact fun M h k => ⟨.machine, .inr (.inl rfl), .of_pure rfl⟩
  ·exact fun A E s V Q k hq => made_type Z1 hq
  ·exact fun A E s e t Q k he h => raise_type Z2 he h
omit h in
theorem map_at {α β γ : Type} {f : α → γ} {g : β → γ} {xs : List α} : ∀ {ys : List β}, xs.map f = ys.map g → ∀ {i : Nat} (dx : α) (dy : β), i < xs.length → f (xs.getD i dx) = g (ys.getD i dy) := by
 induction xs with
 | nil => exact fun _ _ _ _ h => absurd h (Nat.not_lt_zero _)
 | cons x xs ih =>
  intro ys e i dx dy h
  cases ys with
  | nil => exact absurd e nofun
  | cons y ys =>
   have e := List.cons.inj e
   cases i with
   | zero => exact e.1
   | succ i => exact ih e.2 dx dy (Nat.lt_of_succ_lt_succ h)
theorem Tab.fnsOk (q : T.Eqs w.params) (hB : Base (T.wd pr w hb ro)) : ∀ f n ks, (f, n, ks) ∈ T.sig.shapes → ∃ fd kd, FnIs (T.wd pr w hb ro) f fd kd := fun f n ks hf => by
 refine xo0_2 ((Tab.parts h).2.2.2.2.2.2.2.2 _ hf) fun s1 s2 => ?_
 refine ⟨T.fds.getD f default, T.kds.getD f [], ?_⟩
 have hfl : f < T.fns.length := by
  simp only [Tab.shB, Bool.and_eq_true, decide_eq_true_eq] at s1
  exact s1.1.1.1
 have hzl : (T.fns.zip T.kds).length = T.fns.length := by rw [List.length_zip, ← q.len, Nat.min_self]
 have hdl : T.fds.length = T.fns.length := by have := congrArg List.length q.body; rw [List.length_map, List.length_map, hzl] at this; exact this
 have hal : T.fas.length = T.fns.length := by have := congrArg List.length q.at_; rw [List.length_map, List.length_map] at this; omega
 have e1 := map_at q.at_ (i := f) 0 default (by omega)
 have e2 := map_at q.body (i := f) default (fn0, []) (by omega)
 have ez : (T.fns.zip T.kds).getD f (fn0, []) = (T.fns.getD f fn0, T.kds.getD f []) := by
  have hk : f < T.kds.length := q.len ▸ hfl
  simp [List.getD_eq_getElem?_getD, List.getElem?_zip_eq_some, List.getElem?_eq_getElem, hfl, hk, hzl]
 rw [ez] at e2
 refine xo0_2 (Prod.mk.inj e2) fun e2 e3 => ?_
 refine xo0_2 (Prod.mk.inj e3) fun e3 e4 => ?_
 unfold Tab.fnB at s2
 dsimp only at s2
 refine ⟨?_, (and_l (and_l (and_l (and_l (and_l (and_l (and_l (and_l (and_l (and_l (and_l (and_l (and_l (and_l (and_l (and_l s2)))))))))))))))), e2, (beq_iff_eq.mp (and_r (and_l (and_l (and_l (and_l (and_l (and_l (and_l (and_l (and_l (and_l (and_l (and_l (and_l (and_l (and_l s2))))))))))))))))), (beq_iff_eq.mp (and_r (and_l (and_l (and_l (and_l (and_l (and_l (and_l (and_l (and_l (and_l (and_l (and_l (and_l (and_l s2)))))))))))))))), e3, (of_decide_eq_true (and_r (and_l (and_l (and_l (and_l (and_l (and_l (and_l (and_l (and_l (and_l (and_l (and_l (and_l s2))))))))))))))), (not_t (and_r (and_l (and_l (and_l (and_l (and_l (and_l (and_l (and_l (and_l (and_l (and_l (and_l s2)))))))))))))), (not_t (and_r (and_l (and_l (and_l (and_l (and_l (and_l (and_l (and_l (and_l (and_l (and_l s2))))))))))))), (fun x hx => of_decide_eq_true (all_mem (and_r (and_l (and_l (and_l (and_l (and_l (and_l (and_l (and_l (and_l (and_l s2))))))))))) hx)), (fun x hx => beq_iff_eq.mp (all_mem (and_r (and_l (and_l (and_l (and_l (and_l (and_l (and_l (and_l (and_l s2)))))))))) hx)), (of_decide_eq_true (and_r (and_l (and_l (and_l (and_l (and_l (and_l (and_l (and_l s2)))))))))), (and_r (and_l (and_l (and_l (and_l (and_l (and_l (and_l s2)))))))), ?_⟩
 ·obtain ⟨⟨oc, od, da, os⟩, g1, g2⟩ := Option.map_eq_some_iff.mp e1
  cases g2
  exact ⟨oc, od, os, g1⟩
 ·intro β n xs Xs ks Ks vs s hst hs hx hy hv
  refine xo0_2 ((Tab.parts h).2.2.2.2.2.2.2.2 _ hs) fun t1 e1_ => ?_; clear e1_
  simp only [Tab.shB, Bool.and_eq_true, decide_eq_true_eq, List.all_eq_true, List.contains_iff_mem] at t1
  refine par_bind hB (ps := (T.fns.getD f fn0).params) (ds := (T.fns.getD f fn0).dflts) ⟨⟨_, (T.fds.getD f default).params.defaults, ?_, e4⟩, (of_decide_eq_true (and_r (and_l (and_l (and_l (and_l (and_l (and_l (and_l (and_l s2)))))))))), (of_decide_eq_true (and_r (and_l s2))), ?_⟩ hst ⟨t1.1.2, t1.2⟩ t1.1.1.2 hx hy hv
  ·have c1 := List.isEmpty_iff.mp (and_r (and_l (and_l (and_l (and_l (and_l (and_l s2)))))))
   have c2 := Option.isNone_iff_eq_none.mp (and_r (and_l (and_l (and_l (and_l (and_l s2))))))
   have c3 := List.isEmpty_iff.mp (and_r (and_l (and_l (and_l (and_l s2)))))
   have c4 := List.isEmpty_iff.mp (and_r (and_l (and_l (and_l s2))))
   have c5 := Option.isNone_iff_eq_none.mp (and_r (and_l (and_l s2)))
   revert c1 c2 c3 c4 c5
   cases (T.fds.getD f default).params
   rintro rfl rfl rfl rfl rfl
   rfl
  ·rcases Bool.or_eq_true_iff.mp (and_r s2) with c | c
   ·have c := Bool.and_eq_true_iff.mp c
    exact ⟨[], (List.isEmpty_iff.mp c.2) ▸ rfl, .inl ⟨beq_iff_eq.mp c.1, rfl⟩⟩
   ·have c := Bool.and_eq_true_iff.mp c
    have c2 := c.2
    cases g : (T.K w.params).lookup (refV (some (some (T.fds.getD f default).defaults))) with
    | none => rw [g] at c2; exact ftE c2
    | some o =>
     rw [g] at c2
     refine xo2_2 (seqOf_inv c2) fun xs n e z => ?_
     exact ⟨xs.toList, z, .inr ⟨_, o, n, beq_iff_eq.mp c.1, g, e⟩⟩
theorem Tab.all (q : T.Eqs w.params) {mg mb : Str → Option Value} (hB : (T.K w.params).In hb) (hl : hb.NoLimit) (hg : hb.Ns mainGlobals mg) (hn : hb.Ns builtinsNs mb) (hbb : ∀ x : Str, x ≠ "__name__" → mb x = bootBuiltins x) (hsm : hb.get? sysModules ≠ none)
  (hp : ∀ k ∈ T.pct, ∀ (prog : Program) (w : World) (A : Around) (E : Value → Shared → Prop) (s : Shared) (t u : Tok) (n : Int) (Q : Value → Shared → Prop), 0 ≤ n → n < 1000000000 → (∀ y t' k, Q (.str y t') { s with toks := k }) → wpAny (model prog w) A (binaryOp .Mod (.str (nmOf T.names k) t) (.int n u)) Q E s) : Mine.All (T.wd pr w hb ro) :=
 ⟨Tab.base h hB hl hg hn hbb, Tab.wordsOk h hsm hp, Tab.funs h, Tab.clss h, Tab.exms h hB, Tab.excOk h hB, Tab.fnsOk h q (Tab.base h hB hl hg hn hbb)⟩
end
end Mine
end
section
open PySem PySem.W PyProof.Rows PySem.Calls
namespace Mine
noncomputable def gvT : List (Nat × Value) := [(2, .ref 21), (5, .ref 28), (9, .ref 35), (11, .ref 45), (12, .ref 58), (13, .ref 70), (14, .ref 82), (15, .ref 94), (16, .ref 106), (17, .ref 118), (18, .ref 130), (19, .ref 245), (64, .ref 256), (68, .ref 346), (110, .ref 357), (114, .ref 364),
 (52, .type "IndexError"), (79, .type "KeyError"), (72, .type "TypeError"), (74, .type "ValueError"), (32, .builtin "isinstance"), (33, .type "int"), (8, .builtin "len"), (116, .builtin "abs"), (66, .type "range"), (58, .notImplemented)]
noncomputable def meS : List (Nat × MK) := [(23, .fn 3), (22, .prop 4 5), (37, .fn 6), (38, .fn 7), (42, .fn 8), (48, .fn 9), (55, .fn 11), (57, .fn 13), (21, .data), (24, .data), (25, .data), (26, .data), (27, .data), (28, .data), (29, .data), (30, .data)]
noncomputable def meP : List (Nat × MK) := [(23, .fn 18), (78, .fn 19), (84, .fn 20), (80, .fn 21), (90, .fn 22), (96, .fn 23), (81, .fn 24), (99, .fn 25), (102, .fn 27), (104, .fn 28), (70, .data), (71, .data), (76, .data)]
noncomputable def shapes : List (Nat × Nat × List Nat) := [(0, 2, []), (1, 2, []), (2, 1, []), (3, 3, []), (3, 1, [21, 22]), (4, 1, []), (5, 2, []), (6, 2, []), (7, 2, []), (8, 2, []), (8, 2, [41]), (9, 1, []), (11, 2, []), (13, 2, []), (17, 2, []), (18, 1, []), (19, 2, []),
 (20, 3, []), (21, 2, []), (21, 3, []), (21, 4, []), (21, 5, []), (22, 5, []), (23, 2, []), (24, 2, []), (25, 2, []), (27, 1, []), (28, 1, []), (29, 6, []), (30, 1, [])]
noncomputable def tab : Tab where
 names := names
 K := K
 fns := fnTab
 fas := faTab
 fds := fdTab
 kds := kdTab
 scs := sct
 gks := [(2, .fn 0), (5, .fn 1), (9, .fn 2), (64, .fn 17), (110, .fn 29), (114, .fn 30), (19, .cls), (68, .cls), (116, .bi .abs), (8, .bi .len), (32, .bi .isinstance), (66, .bi .range)]
 mes := [(19, meS), (68, meP)]
 cas := [(19, 245), (68, 346)]
 gvs := gvT
 exs := [(12, 58), (13, 70), (14, 82), (15, 94), (16, 106), (17, 118), (18, 130)]
 tys := [(52, "IndexError"), (79, "KeyError"), (72, "TypeError"), (74, "ValueError")]
 top := 45
 shapes := shapes
 rais := [12, 13, 14, 15, 16, 17, 18, 72, 74]
 pct := [87, 93]
 init := 23
 eqN := 55
 ltN := 57
 append := 6
 pop := 10
 remove := 43
 indexError := 52
 keyError := 79
 intN := 33
noncomputable def sg : Sig := tab.sig
theorem tab_ok (P : Params) : tab.ok P = true := by kernel_rfl
theorem tab_eqs (P : Params) : tab.Eqs P := ⟨by kernel_rfl, by kernel_rfl, rfl⟩
end Mine
end
section
open PySem PySem.W PyProof.Rows PySem.Calls
namespace Mine
section
variable (prog : Program) (w : World) (A : Around) (E : Value → Shared → Prop) (s : Shared) (t u : Tok) (n : Int) (Q : Value → Shared → Prop) (h0 : 0 ≤ n) (h1 : n < 1000000000) (hQ : ∀ y t' k, Q (.str y t') { s with toks := k })
include h0 h1 hQ
theorem pct87 : wpAny (model prog w) A (binaryOp .Mod (.str (Str.ofString "Stream %d already in tree") t) (.int n u)) Q E s := by
 refine' KPc.mod_int ?kpcF ?kpcl ?kpch ?kpcm ?_
 case kpcF => kpc_eq
 case kpcl => exact h0
 case kpch => omega
 case kpcm => k_dflt kpc_run
 intro _ _
 exact hQ _ _ _
theorem pct93 : wpAny (model prog w) A (binaryOp .Mod (.str (Str.ofString "Stream %d not in tree") t) (.int n u)) Q E s := by
 refine' KPc.mod_int ?kpcF ?kpcl ?kpch ?kpcm ?_
 case kpcF => kpc_eq
 case kpcl => exact h0
 case kpch => omega
 case kpcm => k_dflt kpc_run
 intro _ _
 exact hQ _ _ _
end
theorem pcts : ∀ k ∈ tab.pct, ∀ (prog : Program) (w : World) (A : Around) (E : Value → Shared → Prop) (s : Shared) (t u : Tok) (n : Int) (Q : Value → Shared → Prop), 0 ≤ n → n < 1000000000 → (∀ y t' k, Q (.str y t') { s with toks := k }) → wpAny (model prog w) A (binaryOp .Mod (.str (nmOf tab.names k) t) (.int n u)) Q E s := fun k hk => by
 rcases List.mem_cons.mp hk with rfl | hk
 ·rw [show nmOf tab.names 87 = Str.ofString "Stream %d already in tree" by kernel_rfl]; exact pct87
 ·rw [List.mem_singleton.mp hk, show nmOf tab.names 93 = Str.ofString "Stream %d not in tree" by kernel_rfl]; exact pct93
end Mine
end
section
open PySem PySem.W PyProof.Rows PySem.Calls
namespace Mine
noncomputable def without (h : Heap) (a : Addr) : Heap := h.update a fun o => { o with data := .freed }
theorem without_get {h : Heap} {a b : Addr} {o : Obj} (e : (without h a).get? b = some o) : h.get? b = some o ∧ b ≠ a := by
 by_cases q : b = a
 ·subst q
  exfalso
  obtain ⟨objs, l⟩ := h
  unfold without Heap.update Heap.get? at e
  simp only [Array.getElem?_modify, if_true] at e
  cases w : objs[b]? with
  | none => rw [w] at e; simp at e
  | some x => rw [w] at e; simp at e
 ·unfold without at e
  rw [Heap.get?_update_other _ _ (fun w => q w.symm)] at e
  exact ⟨e, q⟩
theorem without_self {h : Heap} {a : Addr} : (without h a).get? a = none := by
 cases q : (without h a).get? a with
 | none => rfl
 | some o => exact absurd rfl (without_get q).2
theorem get_without {h : Heap} {a b : Addr} {o : Obj} (e : h.get? b = some o) (q : b ≠ a) : (without h a).get? b = some o := by
 unfold without
 rw [Heap.get?_update_other _ _ (fun w => q w.symm)]
 exact e
noncomputable def noListB (K : Frag) : Bool := K.all fun p => !(p.2.cls == .type "list")
theorem noList05 (P : Params) : noListB (K P) = true := by kernel_rfl
theorem ns_without {h : Heap} {a N : Addr} {m : Str → Option Value} (x : h.Ns N m) {o : Obj} (ha : h.get? a = some o) {v : Array Value} {ep : Nat} (hd : o.data = .seq v ep) : (without h a).Ns N m := by
 refine xo3_3 x fun y es e' h1 h2 h3 => ?_; clear x
 refine ⟨y, es, e', get_without h1 fun q => ?_, h2, h3⟩
 rw [q, ha] at h1
 obtain rfl := Option.some.inj h1
 rw [hd] at h2
 exact absurd h2 nofun
theorem size_without {h : Heap} {a : Addr} : (without h a).objs.size = h.objs.size := by
 obtain ⟨objs, l⟩ := h
 unfold without Heap.update
 simp
theorem ints_VRs {W : Wd} {Vs : List Value} {ns : List Int} (x : IntsAre Vs ns) : ∀ (β : Nat → Addr) (n : Nat), VRs W β n (ns.map .int) Vs := fun β n => by
 induction x with
 | nil => exact .nil
 | cons _ t _ ih => exact .cons ⟨t, rfl⟩ ih
theorem law_at (P : Params) : nsIn (K P) mainGlobals (nm 114) = some (some (.ref 364)) := by kernel_rfl
section
variable {pr : Program} {w : World} {s : Shared} {mg mb : Str → Option Value} {A : Around} {E Q : Value → Shared → Prop}
theorem law05 {a : Addr} {Vs : List Value} {ns : List Int} (hB : (K w.params).In s.heap) (hl : s.heap.NoLimit) (hg : s.heap.Ns mainGlobals mg) (hn : s.heap.Ns builtinsNs mb) (hbb : ∀ x : Str, x ≠ "__name__" → mb x = bootBuiltins x) (hsm : ∃ o es n, s.heap.get? sysModules = some o ∧ o.data = .dict es n)
  (hL : s.heap.IsList a Vs.toArray) (hI : IntsAre Vs ns) (hlen : ns.length ≤ 63) (hh : A.handled = none) (hfr : A.frames = some []) (hd : A.depth ≤ 301) (hu : A.units ≤ 10)
  (run : ∃ st', callF sg 301 30 [.loc 0] (st0 (ns.map .int)) = .ok (.bool true) st' ∧ st'.heap 0 = some (.ro (ns.map .int)))
  (hQ : ∀ s', (∀ b o, s.heap.get? b = some o → s'.heap.get? b = some o) → s' = { s with heap := s'.heap, toks := s'.toks } → Q (.bool true) s') : wpAny (model pr w) A (call (.ref 364) [.ref a]) Q E s := by
 refine xm_eaaea hL fun o ho hc ep hdat => ?_; clear hL
 revert run; refine fun z_ => xo1_2 z_ fun st' run hro => ?_; clear z_
 have hK : (K w.params).In (without s.heap a) := fun b x e => get_without (hB b x e) fun q => by
  have h1 := hB b x e
  rw [q, ho] at h1
  obtain rfl := Option.some.inj h1
  have := List.all_eq_true.mp (noList05 w.params) _ (mem_of_lookup e)
  simp only [hc] at this
  exact absurd this (by decide)
 have X : All (tab.wd pr w (without s.heap a) o) := by
  refine xo1_2 hl fun mc m1 m2 => ?_; clear hl
  refine Tab.all (tab_ok _) (tab_eqs _) hK ⟨mc, ns_without m1 ho hdat, m2⟩ (ns_without hg ho hdat) (ns_without hn ho hdat) hbb ?_ pcts
  refine xo3_2 hsm fun y es n hy hd => ?_; clear hsm
  rw [get_without hy fun q => by rw [q, ho] at hy; cases hy; rw [hdat] at hd; cases hd]
  nofun
 refine top_ok (W := tab.wd pr w (without s.heap a) o) (f := 30) (p := 113) (n := 300) (xs := ns.map .int) (Vs := Vs) (ep := ep) X (show (30, 1, []) ∈ shapes by decide) rfl hh hfr ?_ ?_ (fun b x e => (without_get e).1) (Nat.le_of_eq size_without) ho ⟨hc, hdat⟩ (ints_VRs hI) (by rw [List.length_map]; omega) without_self run hro fun s' h1 h2 h3 => hQ s' (fun b x e => ?_) h3
 ·show A.depth + 1 + 2 * 300 < 1000
  omega
 ·show A.units + 3 + 13 * 300 + 20 < 9900
  omega
 ·by_cases q : b = a
  ·rw [q] at e ⊢
   rw [ho] at e
   obtain rfl := Option.some.inj e
   exact h2
  ·exact h1 b x (get_without e q)
end
end Mine
end
namespace Mine
section
open PySem
abbrev Hp := Nat → Option AO
abbrev Lo := List (Nat × AV)
abbrev Pst (α : Type) := α → Lo → Hp → Nat → Nat → Prop
abbrev Est := Nat → Bool → Lo → Hp → Nat → Nat → Prop
noncomputable def Wp {α : Type} (r : R α) (Q : Pst α) (E : Est) : Prop := match r with
 | .ok a s => Q a s.loc s.heap s.next s.hd
 | .ex c cl s => E c cl s.loc s.heap s.next s.hd
 | .bad => False
section
variable {E : Est} {α β : Type} {r : R α} {Q : Pst α}
theorem Wp.mono {Q' : Pst α} {E' : Est} (w : Wp r Q E) (hQ : ∀ a L h n k, Q a L h n k → Q' a L h n k) (hE : ∀ c cl L h n k, E c cl L h n k → E' c cl L h n k) : Wp r Q' E' := by
 cases r with
 | ok a s => exact hQ _ _ _ _ _ w
 | ex c cl s => exact hE _ _ _ _ _ _ w
 | bad => exact w
theorem Wp.imp {Q' : Pst α} (w : Wp r Q E) (hQ : ∀ a L h n k, Q a L h n k → Q' a L h n k) : Wp r Q' E := w.mono hQ fun _ _ _ _ _ _ x => x
theorem Wp.bnd {f : α → St → R β} {Q : Pst β} (w : Wp r (fun a L h n k => Wp (f a ⟨L, h, n, k⟩) Q E) E) : Wp (r.bnd f) Q E := by
 cases r <;> exact w
theorem Wp.eq {a : α} {L : Lo} {h : Hp} {n k : Nat} (e : r = .ok a ⟨L, h, n, k⟩) (q : Q a L h n k) : Wp r Q E := by subst e; exact q
theorem Wp.only {f : α → St → R β} {Q : Pst β} (w : Wp r (fun a L h n k => Wp (f a ⟨L, h, n, k⟩) Q E) fun _ _ _ _ _ _ => False) : Wp (r.only.bnd f) Q E := by
 cases r with
 | ok a s => exact w
 | ex c cl s => exact w.elim
 | bad => exact w
theorem Wp.atO {s : St} {l : Nat} {o : AO} {f : AO → R α} (e : s.heap l = some o) (w : Wp (f o) Q E) : Wp (atObj s l f) Q E := by unfold atObj; rw [e]; exact w
theorem Wp.ifp {p : Prop} [Decidable p] (h : p) (w : Wp r Q E) : Wp (if p then r else .bad) Q E := by rw [if_pos h]; exact w
theorem Wp.cmpI {g : Sig} {C : Nat → List AV → St → R AV} {l j m c f : Nat} {as bs : Lo} {L : Lo} {h : Hp} {n k : Nat} {Q : Pst Bool} (ha : h l = some (.inst c as)) (hb : h j = some (.inst c bs)) (hm : g.me c m = .fn f)
  (w : Wp (callFn g C f [.loc l, .loc j] [] ⟨L, h, n, k⟩) (fun v L h n k => ∃ b, v = .bool b ∧ Q b L h n k) fun _ _ _ _ _ _ => False) : Wp (Mine.cmpI g C m l j ⟨L, h, n, k⟩) Q E := by
 refine .atO ha (.atO hb (.ifp rfl ?_))
 rw [hm]
 exact .only (w.imp fun v _ _ _ _ w => by obtain ⟨b, rfl, w⟩ := w; exact w)
theorem Wp.fin {a : α} {L : Lo} {h : Hp} {n k : Nat} (w : Wp r (fun b L' h' n' k' => b = a ∧ (⟨L', h', n', k'⟩ : St) = ⟨L, h, n, k⟩) fun _ _ _ _ _ _ => False) : r = .ok a ⟨L, h, n, k⟩ := by
 cases r with
 | ok b s => obtain ⟨rfl, e⟩ := w; exact congrArg (R.ok b) e
 | ex c cl s => exact w.elim
 | bad => exact w.elim
end
section
variable {g : Sig} {C : Nat → List AV → St → R AV} {E : Est} {k n : Nat} {h : Hp} {L : Lo} {s : St} {Q : Pst AV}
theorem e_lv {i : Nat} {p : Pos} {v : AV} (e : get? L i = some v) (q : Q v L h n k) : Wp (evalE g C (.lv i p) ⟨L, h, n, k⟩) Q E :=
 .eq (show (match get? L i with | some v => R.ok v _ | none => .bad) = .ok v _ by rw [e]) q
theorem e_gv {i : Nat} {p : Pos} (q : Q (.gl i) L h n k) : Wp (evalE g C (.gv i p) ⟨L, h, n, k⟩) Q E := q
theorem e_ci {i : Int} {j : Nat} {p : Pos} (q : Q (.int i) L h n k) : Wp (evalE g C (.cst (.int i) j p) ⟨L, h, n, k⟩) Q E := q
theorem e_cb {b : Bool} {j : Nat} {p : Pos} (q : Q (.bool b) L h n k) : Wp (evalE g C (.cst (.bool b) j p) ⟨L, h, n, k⟩) Q E := q
theorem e_cn {j : Nat} {p : Pos} (q : Q .none L h n k) : Wp (evalE g C (.cst .none j p) ⟨L, h, n, k⟩) Q E := q
theorem e_cs {i : Nat} {j : Nat} {p : Pos} (q : Q (.str i) L h n k) : Wp (evalE g C (.cst (.str i) j p) ⟨L, h, n, k⟩) Q E := q
theorem e_attr {e : Mine.E} {a : Nat} {p : Pos} (w : Wp (evalE g C e s) (fun v L h n k => Wp (getA g C v a ⟨L, h, n, k⟩) Q E) E) : Wp (evalE g C (.attr e a p) s) Q E := .bnd w
theorem e_sub {e i : Mine.E} {p : Pos} (w : Wp (evalE g C e s) (fun v L h n k => Wp (evalE g C i ⟨L, h, n, k⟩) (fun w L h n k => Wp (getI g v w ⟨L, h, n, k⟩) Q E) E) E) : Wp (evalE g C (.sub e i p) s) Q E := .bnd (w.imp fun _ _ _ _ _ w => .bnd w)
theorem e_bin {o : Op} {l r : Mine.E} {p : Pos} (w : Wp (evalE g C l s) (fun a L h n k => Wp (evalE g C r ⟨L, h, n, k⟩) (fun b L h n k => Wp (bino g o a b ⟨L, h, n, k⟩) Q E) E) E) : Wp (evalE g C (.bin o l r p) s) Q E := .bnd (w.imp fun _ _ _ _ _ w => .bnd w)
theorem e_not {e : Mine.E} {p : Pos} (w : Wp (evalE g C e s) (fun a L h n k => Wp (truth a ⟨L, h, n, k⟩) (fun b L h n k => Q (.bool (!b)) L h n k) E) E) : Wp (evalE g C (.not e p) s) Q E := .bnd (w.imp fun _ _ _ _ _ w => .bnd w)
theorem e_band {es : Es} {p : Pos} (w : Wp (evalB g C true es s) Q E) : Wp (evalE g C (.band es p) s) Q E := w
theorem b_one {op : Bool} {e : Mine.E} (w : Wp (evalE g C e s) Q E) : Wp (evalB g C op (.cons e .nil) s) Q E := w
theorem b_cons {op : Bool} {e e' : Mine.E} {r : Es} (w : Wp (evalE g C e s) (fun v L h n k => Wp (truth v ⟨L, h, n, k⟩) (fun b L h n k => if b = op then Wp (evalB g C op (.cons e' r) ⟨L, h, n, k⟩) Q E else Q v L h n k) E) E) : Wp (evalB g C op (.cons e (.cons e' r)) s) Q E :=
 .bnd (w.imp fun v _ _ _ _ w => .bnd (w.imp fun b _ _ _ _ w => by show Wp (if b = op then _ else _) _ _; split <;> rename_i q <;> simp only [q, if_true, if_false] at w <;> exact w))
theorem e_cmp {l r : Mine.E} {o : Cm} {p : Pos} (w : Wp (evalE g C l s) (fun a L h n k => Wp (evalE g C r ⟨L, h, n, k⟩) (fun b L h n k => Wp (cmpv g C o a b ⟨L, h, n, k⟩) (fun x L h n k => Q (.bool x) L h n k) E) E) E) : Wp (evalE g C (.cmp l o r p) s) Q E :=
 .bnd (w.imp fun _ _ _ _ _ w => .bnd (w.imp fun _ _ _ _ _ w => .bnd w))
theorem e_cmp2 {l m r : Mine.E} {o o' : Cm} {p : Pos} (w : Wp (evalE g C l s) (fun a L h n k => Wp (evalE g C m ⟨L, h, n, k⟩) (fun b L h n k => Wp (cmpv g C o a b ⟨L, h, n, k⟩) (fun x L h n k => if x = true then Wp (evalE g C r ⟨L, h, n, k⟩) (fun c L h n k => Wp (cmpv g C o' b c ⟨L, h, n, k⟩) (fun x L h n k => Q (.bool x) L h n k) E) E else Q (.bool false) L h n k) E) E) E) : Wp (evalE g C (.cmp2 l o m o' r p) s) Q E :=
 .bnd (w.imp fun _ _ _ _ _ w => .bnd (w.imp fun _ _ _ _ _ w => .bnd (w.imp fun x _ _ _ _ w => by
  cases x with
  | true => rw [if_pos rfl] at w; exact .bnd (Wp.imp w fun _ _ _ _ _ w => .bnd w)
  | false => exact w)))
theorem e_test {e : Mine.E} {Q : Pst Bool} (w : Wp (evalE g C e s) (fun v L h n k => Wp (truth v ⟨L, h, n, k⟩) Q E) E) : Wp (evalT g C e s) Q E := .bnd w
theorem e_ife {t a b : Mine.E} {p : Pos} (w : Wp (evalE g C t s) (fun v L h n k => Wp (truth v ⟨L, h, n, k⟩) (fun x L h n k => if x = true then Wp (evalE g C a ⟨L, h, n, k⟩) Q E else Wp (evalE g C b ⟨L, h, n, k⟩) Q E) E) E) : Wp (evalE g C (.ife t a b p) s) Q E :=
 .bnd (Wp.imp (e_test w) fun x _ _ _ _ w => by cases x <;> exact w)
theorem e_call {i : Nat} {q : Pos} {as : Es} {ks : Ks} {p : Pos} (hc : canCall g (.gl i) = true) (w : Wp (evalEs g C as s) (fun xs L h n k => Wp (evalKs g C ks ⟨L, h, n, k⟩) (fun ys L h n k => Wp (callV g C (.gl i) xs ys ⟨L, h, n, k⟩) Q E) E) E) : Wp (evalE g C (.call (.gv i q) as ks p) s) Q E := by
 show Wp (if canCall g (.gl i) then (evalEs g C as s).bnd fun xs s => (evalKs g C ks s).bnd fun ys s => callV g C (.gl i) xs ys s else .bad) Q E
 rw [if_pos hc]
 exact .bnd (w.imp fun _ _ _ _ _ w => .bnd w)
theorem e_mcall {o : Mine.E} {m : Nat} {q : Pos} {as : Es} {ks : Ks} {p : Pos} (w : Wp (evalE g C o s) (fun v L h n k => ∃ mt, methodOf g v m ⟨L, h, n, k⟩ = some mt ∧ Wp (evalEs g C as ⟨L, h, n, k⟩) (fun xs L h n k => Wp (evalKs g C ks ⟨L, h, n, k⟩) (fun ys L h n k => Wp (callMt g C mt v xs ys ⟨L, h, n, k⟩) Q E) E) E) E) : Wp (evalE g C (.mcall o m q as ks p) s) Q E :=
 .bnd (w.imp fun v L h n k ⟨mt, hm, w⟩ => by
  show Wp (match methodOf g v m ⟨L, h, n, k⟩ with | some mt => _ | none => _) _ _
  rw [hm]
  exact .bnd (w.imp fun _ _ _ _ _ w => .bnd w))
theorem es_nil {Q : Pst (List AV)} (q : Q [] L h n k) : Wp (evalEs g C .nil ⟨L, h, n, k⟩) Q E := q
theorem es_cons {Q : Pst (List AV)} {e : Mine.E} {r : Es} (w : Wp (evalE g C e s) (fun v L h n k => Wp (evalEs g C r ⟨L, h, n, k⟩) (fun vs L h n k => Q (v :: vs) L h n k) E) E) : Wp (evalEs g C (.cons e r) s) Q E := .bnd (w.imp fun _ _ _ _ _ w => .bnd w)
theorem ks_nil {Q : Pst (List (Nat × AV))} (q : Q [] L h n k) : Wp (evalKs g C .nil ⟨L, h, n, k⟩) Q E := q
theorem ks_cons {Q : Pst (List (Nat × AV))} {m : Nat} {e : Mine.E} {p : Pos} {r : Ks} (w : Wp (evalE g C e s) (fun v L h n k => Wp (evalKs g C r ⟨L, h, n, k⟩) (fun vs L h n k => Q ((m, v) :: vs) L h n k) E) E) : Wp (evalKs g C (.cons m e p r) s) Q E := .bnd (w.imp fun _ _ _ _ _ w => .bnd w)
noncomputable def upd (h : Hp) (l : Nat) (o : AO) : Hp := fun x => if x = l then some o else h x
noncomputable def Pu (g : Sig) (C : Nat → List AV → St → R AV) (L : Lo) (e : Mine.E) (v : AV) : Prop := ∀ h n k, evalE g C e ⟨L, h, n, k⟩ = .ok v ⟨L, h, n, k⟩
noncomputable def Us (g : Sig) (C : Nat → List AV → St → R AV) (L : Lo) (es : Es) (vs : List AV) : Prop := ∀ h n k, evalEs g C es ⟨L, h, n, k⟩ = .ok vs ⟨L, h, n, k⟩
theorem v_lv {i : Nat} {p : Pos} {v : AV} (e : get? L i = some v) : Pu g C L (.lv i p) v := fun h n k =>
 show (match get? L i with | some v => R.ok v _ | none => .bad) = .ok v _ by rw [e]
theorem v_gv {i : Nat} {p : Pos} : Pu g C L (.gv i p) (.gl i) := fun _ _ _ => rfl
theorem v_ci {i : Int} {j : Nat} {p : Pos} : Pu g C L (.cst (.int i) j p) (.int i) := fun _ _ _ => rfl
theorem v_cb {b : Bool} {j : Nat} {p : Pos} : Pu g C L (.cst (.bool b) j p) (.bool b) := fun _ _ _ => rfl
theorem v_cn {j : Nat} {p : Pos} : Pu g C L (.cst .none j p) .none := fun _ _ _ => rfl
theorem v_cs {i : Nat} {j : Nat} {p : Pos} : Pu g C L (.cst (.str i) j p) (.str i) := fun _ _ _ => rfl
theorem v_add {l r : Mine.E} {x y : Int} {p : Pos} (a : Pu g C L l (.int x)) (b : Pu g C L r (.int y)) : Pu g C L (.bin .add l r p) (.int (x + y)) := fun h n k =>
 show ((evalE g C l _).bnd fun a s => (evalE g C r s).bnd fun b s => bino g .add a b s) = _ by rw [a h n k]; show ((evalE g C r _).bnd fun b s => bino g .add _ b s) = _; rw [b h n k]; rfl
theorem v_sub {l r : Mine.E} {x y : Int} {p : Pos} (a : Pu g C L l (.int x)) (b : Pu g C L r (.int y)) : Pu g C L (.bin .sub l r p) (.int (x - y)) := fun h n k =>
 show ((evalE g C l _).bnd fun a s => (evalE g C r s).bnd fun b s => bino g .sub a b s) = _ by rw [a h n k]; show ((evalE g C r _).bnd fun b s => bino g .sub _ b s) = _; rw [b h n k]; rfl
theorem vs_nil : Us g C L .nil [] := fun _ _ _ => rfl
theorem vs_cons {e : Mine.E} {r : Es} {v : AV} {vs : List AV} (a : Pu g C L e v) (b : Us g C L r vs) : Us g C L (.cons e r) (v :: vs) := fun h n k =>
 show ((evalE g C e _).bnd fun v s => (evalEs g C r s).bnd fun vs s => .ok (v :: vs) s) = _ by rw [a h n k]; show ((evalEs g C r _).bnd fun vs s => R.ok (_ :: vs) s) = _; rw [b h n k]; rfl
theorem p_es {Q : Pst (List AV)} {es : Es} {vs : List AV} (a : Us g C L es vs) (q : Q vs L h n k) : Wp (evalEs g C es ⟨L, h, n, k⟩) Q E := .eq (a h n k) q
theorem p_mcall {o : Mine.E} {m : Nat} {q : Pos} {as : Es} {p : Pos} {v : AV} {vs : List AV} (a : Pu g C L o v) (b : Us g C L as vs) (w : ∃ mt, methodOf g v m ⟨L, h, n, k⟩ = some mt ∧ Wp (callMt g C mt v vs [] ⟨L, h, n, k⟩) Q E) : Wp (evalE g C (.mcall o m q as .nil p) ⟨L, h, n, k⟩) Q E :=
 e_mcall (.eq (a h n k) (by obtain ⟨mt, e, w⟩ := w; exact ⟨mt, e, .eq (b h n k) (ks_nil w)⟩))
theorem p_call {i : Nat} {q : Pos} {as : Es} {p : Pos} {vs : List AV} (hc : canCall g (.gl i) = true) (b : Us g C L as vs) (w : Wp (callV g C (.gl i) vs [] ⟨L, h, n, k⟩) Q E) : Wp (evalE g C (.call (.gv i q) as .nil p) ⟨L, h, n, k⟩) Q E :=
 e_call hc (.eq (b h n k) (ks_nil w))
theorem p_attr {e : Mine.E} {m : Nat} {p : Pos} {v : AV} (a : Pu g C L e v) (w : Wp (getA g C v m ⟨L, h, n, k⟩) Q E) : Wp (evalE g C (.attr e m p) ⟨L, h, n, k⟩) Q E := e_attr (.eq (a h n k) w)
theorem p_sub {e i : Mine.E} {p : Pos} {v w : AV} (a : Pu g C L e v) (b : Pu g C L i w) (q : Wp (getI g v w ⟨L, h, n, k⟩) Q E) : Wp (evalE g C (.sub e i p) ⟨L, h, n, k⟩) Q E := e_sub (.eq (a h n k) (.eq (b h n k) q))
theorem p_bin {o : Op} {l r : Mine.E} {p : Pos} {v w : AV} (a : Pu g C L l v) (b : Pu g C L r w) (q : Wp (bino g o v w ⟨L, h, n, k⟩) Q E) : Wp (evalE g C (.bin o l r p) ⟨L, h, n, k⟩) Q E := e_bin (.eq (a h n k) (.eq (b h n k) q))
theorem p_cmp {o : Cm} {l r : Mine.E} {p : Pos} {v w : AV} (a : Pu g C L l v) (b : Pu g C L r w) (q : Wp (cmpv g C o v w ⟨L, h, n, k⟩) (fun x L h n k => Q (.bool x) L h n k) E) : Wp (evalE g C (.cmp l o r p) ⟨L, h, n, k⟩) Q E := e_cmp (.eq (a h n k) (.eq (b h n k) q))
theorem e_lst {es : Es} {p : Pos} (w : Wp (evalEs g C es s) (fun xs L h n k => xs.length ≤ 1000 ∧ Q (.loc n) L (upd h n (.list xs)) (n + 1) k) E) : Wp (evalE g C (.lst es p) s) Q E :=
 .bnd (w.imp fun xs _ _ _ _ w => by show Wp (if xs.length ≤ 1000 then _ else _) _ _; rw [if_pos w.1]; exact w.2)
theorem e_tup {es : Es} {j : Nat} {p : Pos} (w : Wp (evalEs g C es s) (fun xs L h n k => xs.length ≤ 1000 ∧ Q (.loc n) L (upd h n (.tup xs)) (n + 1) k) E) : Wp (evalE g C (.tup es j p) s) Q E :=
 .bnd (w.imp fun xs _ _ _ _ w => by show Wp (if xs.length ≤ 1000 then _ else _) _ _; rw [if_pos w.1]; exact w.2)
theorem e_dct0 {p : Pos} (q : Q (.loc n) L (upd h n (.dict [])) (n + 1) k) : Wp (evalE g C (.dct0 p) ⟨L, h, n, k⟩) Q E := q
theorem e_dct1 {a b : Mine.E} {p : Pos} (w : Wp (evalE g C a s) (fun a L h n k => Wp (evalE g C b ⟨L, h, n, k⟩) (fun b L h n k => (∃ i, a = .int i) ∧ Q (.loc n) L (upd h n (.dict [(a, b)])) (n + 1) k) E) E) : Wp (evalE g C (.dct1 a b p) s) Q E :=
 .bnd (w.imp fun a _ _ _ _ w => .bnd (w.imp fun b _ _ _ _ w => by obtain ⟨⟨i, rfl⟩, w⟩ := w; exact w))
theorem e_upto {e j : Mine.E} {p q : Pos} (w : Wp (evalE g C e s) (fun v L h n k => Wp (evalE g C j ⟨L, h, n, k⟩) (fun w L h n k => ∃ l i xs, v = .loc l ∧ w = .int i ∧ (h l = some (.list xs) ∨ h l = some (.ro xs)) ∧ 0 ≤ i ∧ xs.length ≤ 1000 ∧ Q (.loc n) L (upd h n (.list (xs.take i.toNat))) (n + 1) k) E) E) : Wp (evalE g C (.upto e j p q) s) Q E :=
 .bnd (w.imp fun v _ _ _ _ w => .bnd (w.imp fun w L h n k x => by
  obtain ⟨l, i, xs, rfl, rfl, h1 | h1, h2, h3, h4⟩ := x <;>
  ·show Wp (atObj ⟨L, h, n, k⟩ l _) Q E
   exact .atO h1 (.ifp (r := alloc _ _) ⟨h2, h3⟩ h4)))
end
section
variable {g : Sig} {C : Nat → List AV → St → R AV} {E : Est} {k n : Nat} {h : Hp} {L : Lo} {s : St} {Q : Pst Fl}
theorem xs_nil (q : Q .next L h n k) : Wp (execs g C .nil ⟨L, h, n, k⟩) Q E := q
noncomputable def Go1 (g : Sig) (C : Nat → List AV → St → R AV) (r : Ss) (Q : Pst Fl) (E : Est) : Pst Fl := fun f L h n k => match f with
 | .next => Wp (execs g C r ⟨L, h, n, k⟩) Q E
 | f => Q f L h n k
theorem xs_cons {a : S} {r : Ss} (w : Wp (exec g C a s) (Go1 g C r Q E) E) : Wp (execs g C (.cons a r) s) Q E :=
 .bnd (w.imp fun f _ _ _ _ w => by cases f <;> exact w)
theorem x_expr {e : Mine.E} {p : Pos} (w : Wp (evalE g C e s) (fun v L h n k => (match v with | .loc _ => False | .gl _ => False | _ => True) ∧ Q .next L h n k) E) : Wp (exec g C (.expr e p) s) Q E :=
 .bnd (w.imp fun v _ _ _ _ w => by cases v <;> first | exact w.2 | exact w.1.elim)
theorem x_asg {i : Nat} {q : Pos} {e : Mine.E} {p : Pos} (w : Wp (evalE g C e s) (fun v L h n k => Q .next (put L i v) h n k) E) : Wp (exec g C (.asg (.nm i q) e p) s) Q E := .bnd (w.imp fun _ _ _ _ _ w => w)
theorem x_asgA {o : Mine.E} {a : Nat} {q : Pos} {e : Mine.E} {p : Pos} (w : Wp (evalE g C e s) (fun v L h n k => Wp (evalE g C o ⟨L, h, n, k⟩) (fun w L h n k => Wp (setA g C w a v ⟨L, h, n, k⟩) (fun _ L h n k => Q .next L h n k) E) E) E) : Wp (exec g C (.asg (.attr o a q) e p) s) Q E :=
 .bnd (w.imp fun _ _ _ _ _ w => .bnd (.bnd w))
theorem x_asgI {o i : Mine.E} {q : Pos} {e : Mine.E} {p : Pos} (w : Wp (evalE g C e s) (fun v L h n k => Wp (evalE g C o ⟨L, h, n, k⟩) (fun w L h n k => Wp (evalE g C i ⟨L, h, n, k⟩) (fun j L h n k => Wp (setI w j v ⟨L, h, n, k⟩) (fun _ L h n k => Q .next L h n k) E) E) E) E) : Wp (exec g C (.asg (.sub o i q) e p) s) Q E :=
 .bnd (w.imp fun _ _ _ _ _ w => .bnd (.bnd (w.imp fun _ _ _ _ _ w => .bnd w)))
theorem x_asg2 {i j m : Nat} {q q' q'' : Pos} {e : Mine.E} {p : Pos} (w : Wp (evalE g C e s) (fun v L h n k => ∃ l x y, v = .loc l ∧ h l = some (.tup [x, y]) ∧ k ≤ 1 ∧ Q .next (put (put L i x) j y) h n k) E) : Wp (exec g C (.asg (.tup i q j q' m q'') e p) s) Q E :=
 .bnd (w.imp fun v L h n k w => .bnd (by
  refine xo3_4 w fun l x y e3_ h1 h2 h3 => ?_; clear w; obtain rfl := e3_
  show Wp (atObj ⟨L, h, n, k⟩ l _) _ E
  exact .atO h1 (.ifp (r := R.ok _ _) h2 h3)))
theorem x_aug {i : Nat} {q : Pos} {o : Op} {e : Mine.E} {p : Pos} {a : Int} (ha : get? s.loc i = some (.int a)) (w : Wp (evalE g C e s) (fun v L h n k => ∃ b, v = .int b ∧ (match o with | .add => Q .next (put L i (.int (a + b))) h n k | .sub => Q .next (put L i (.int (a - b))) h n k | _ => False)) E) : Wp (exec g C (.aug i q o e p) s) Q E := by
 show Wp (match get? s.loc i with | some a => _ | none => _) Q E
 rw [ha]
 exact .bnd (w.imp fun v _ _ _ _ w => by obtain ⟨b, rfl, w⟩ := w; cases o <;> first | exact w | exact w.elim)
theorem x_ife {t : Mine.E} {a b : Ss} {p : Pos} (w : Wp (evalE g C t s) (fun v L h n k => Wp (truth v ⟨L, h, n, k⟩) (fun x L h n k => if x = true then Wp (execs g C a ⟨L, h, n, k⟩) Q E else Wp (execs g C b ⟨L, h, n, k⟩) Q E) E) E) : Wp (exec g C (.ife t a b p) s) Q E :=
 .bnd (Wp.imp (e_test w) fun x _ _ _ _ w => by cases x <;> exact w)
theorem x_ret {e : Mine.E} {p : Pos} (w : Wp (evalE g C e s) (fun v L h n k => Q (.ret v) L h n k) E) : Wp (exec g C (.ret e p) s) Q E := .bnd (w.imp fun _ _ _ _ _ w => w)
theorem x_ret0 {p : Pos} (q : Q (.ret .none) L h n k) : Wp (exec g C (.ret0 p) ⟨L, h, n, k⟩) Q E := q
theorem x_cont {p : Pos} (q : Q .cont L h n k) : Wp (exec g C (.cont p) ⟨L, h, n, k⟩) Q E := q
theorem x_assert {e : Mine.E} {p : Pos} (w : Wp (evalE g C e s) (fun v L h n k => Wp (truth v ⟨L, h, n, k⟩) (fun b L h n k => b = true ∧ Q .next L h n k) E) E) : Wp (exec g C (.assert e p) s) Q E :=
 .bnd (Wp.imp (e_test w) fun x _ _ _ _ w => by obtain ⟨rfl, w⟩ := w; exact w)
theorem x_raise {c : Nat} {q : Pos} {e : Mine.E} {cp p : Pos} (w : Wp (evalE g C e s) (fun _ L h n k => k ≤ 1 ∧ E c (k == 0) L h n k) E) : Wp (exec g C (.raise c q e cp p) s) Q E :=
 .bnd (w.imp fun _ L h n k w => by
  unfold raiseAs
  rcases Nat.le_one_iff_eq_zero_or_eq_one.mp w.1 with rfl | rfl <;> exact w.2)
theorem x_whl {t : Mine.E} {b : Ss} {p : Pos} (w : Wp (whileN (fun s => evalT g C t s) (fun s => execs g C b s) g.lf s) Q E) : Wp (exec g C (.whl t b p) s) Q E := w
theorem c_fn {Q : Pst AV} {f : Nat} {xs : List AV} {ks : List (Nat × AV)} {vs : List AV} (hs : g.shapes.contains (f, xs.length, ks.map (·.1)) = true) (hb : bindR (g.fn f).params (g.fn f).dflts xs ks = some vs) (w : Wp (C f vs s) Q E) : Wp (callFn g C f xs ks s) Q E := by
 unfold callFn
 rw [if_pos (List.contains_iff_mem.mp hs), hb]
 exact w
noncomputable def Back (L : Lo) (Q : Pst AV) : Pst Fl := fun f _ h n k => match f with
 | .ret v => Q v L h n k
 | .next => Q .none L h n k
 | _ => False
theorem c_in {Q : Pst AV} {f m : Nat} {vs : List AV} (hl : vs.length = (g.fn f).params.length) (w : Wp (execs g (callF g m) (g.fn f).body ⟨(g.fn f).params.zip vs, h, n, k⟩) (Back L Q) fun c cl _ h n k => E c cl L h n k) : Wp (callF g (m + 1) f vs ⟨L, h, n, k⟩) Q E := by
 unfold callF
 rw [if_pos hl]
 show Wp (back L (execs g (callF g m) (g.fn f).body ⟨(g.fn f).params.zip vs, h, n, k⟩)) Q E
 cases q : execs g (callF g m) (g.fn f).body ⟨(g.fn f).params.zip vs, h, n, k⟩ with
 | ok f s' => rw [q] at w; cases f <;> first | exact w | exact w.elim
 | ex c cl s' => rw [q] at w; exact w
 | bad => rw [q] at w; exact w
section
variable {P P' : Prop} {b : Bool} {x y : Int}
theorem it_t (e : b = true) (p : P) : if b = true then P else P' := by rw [if_pos e]; exact p
theorem it_f (e : b = false) (p : P') : if b = true then P else P' := by rw [if_neg (by rw [e]; nofun)]; exact p
theorem it_s (p : b = true → P) (p' : b = false → P') : if b = true then P else P' := by
 cases b
 ·exact p' rfl
 ·exact p rfl
theorem go_next {r : Ss} (w : Wp (execs g C r ⟨L, h, n, k⟩) Q E) : Go1 g C r Q E .next L h n k := w
theorem go_ret {r : Ss} {v : AV} (q : Q (.ret v) L h n k) : Go1 g C r Q E (.ret v) L h n k := q
theorem p_asg {i : Nat} {q p : Pos} {e : Mine.E} {r : Ss} {v : AV} (a : Pu g C L e v) (w : Wp (execs g C r ⟨put L i v, h, n, k⟩) Q E) : Wp (execs g C (.cons (.asg (.nm i q) e p) r) ⟨L, h, n, k⟩) Q E := xs_cons (x_asg (.eq (a h n k) (go_next w)))
theorem p_ret {p : Pos} {e : Mine.E} {r : Ss} {v : AV} (a : Pu g C L e v) (w : Q (.ret v) L h n k) : Wp (execs g C (.cons (.ret e p) r) ⟨L, h, n, k⟩) Q E := xs_cons (x_ret (.eq (a h n k) (go_ret w)))
theorem go_cont {r : Ss} (q : Q .cont L h n k) : Go1 g C r Q E .cont L h n k := q
theorem bk_ret {L' : Lo} {Q : Pst AV} {v : AV} (q : Q v L' h n k) : Back L' Q (.ret v) L h n k := q
theorem bk_next {L' : Lo} {Q : Pst AV} (q : Q .none L' h n k) : Back L' Q .next L h n k := q
theorem t_bool {Q : Pst Bool} (q : Q b L h n k) : Wp (truth (.bool b) ⟨L, h, n, k⟩) Q E := q
theorem t_int {Q : Pst Bool} (q : Q (decide (x ≠ 0)) L h n k) : Wp (truth (.int x) ⟨L, h, n, k⟩) Q E := q
theorem t_none {Q : Pst Bool} (q : Q false L h n k) : Wp (truth .none ⟨L, h, n, k⟩) Q E := q
theorem t_list {Q : Pst Bool} {l : Nat} {xs : List AV} (e : h l = some (.list xs)) (q : Q (!xs.isEmpty) L h n k) : Wp (truth (.loc l) ⟨L, h, n, k⟩) Q E := by
 show Wp (atObj ⟨L, h, n, k⟩ l _) Q E
 exact .atO e q
theorem o_add {Q : Pst AV} (q : Q (.int (x + y)) L h n k) : Wp (bino g .add (.int x) (.int y) ⟨L, h, n, k⟩) Q E := q
theorem o_sub {Q : Pst AV} (q : Q (.int (x - y)) L h n k) : Wp (bino g .sub (.int x) (.int y) ⟨L, h, n, k⟩) Q E := q
theorem o_mul {Q : Pst AV} (e : x.natAbs < 2 ^ 60) (q : Q (.int (x * y)) L h n k) : Wp (bino g .mul (.int x) (.int y) ⟨L, h, n, k⟩) Q E := by
 show Wp (if x.natAbs < 2 ^ 60 then _ else _) Q E
 rw [if_pos e]; exact q
theorem o_div {Q : Pst AV} (e : y ≠ 0 ∧ y.natAbs < 1073741824) (q : Q (.int (Int.fdiv x y)) L h n k) : Wp (bino g .fdiv (.int x) (.int y) ⟨L, h, n, k⟩) Q E := by
 show Wp (if y ≠ 0 ∧ y.natAbs < 1073741824 then _ else _) Q E
 rw [if_pos e]; exact q
theorem o_mod {Q : Pst AV} (e : y ≠ 0) (q : Q (.int (Int.fmod x y)) L h n k) : Wp (bino g .mod (.int x) (.int y) ⟨L, h, n, k⟩) Q E := by
 show Wp (if y ≠ 0 then _ else _) Q E
 rw [if_pos e]; exact q
theorem o_pct {Q : Pst AV} {j : Nat} (e : j ∈ g.pct ∧ 0 ≤ y ∧ y < 1000000000) (q : Q .msg L h n k) : Wp (bino g .mod (.str j) (.int y) ⟨L, h, n, k⟩) Q E := by
 show Wp (if j ∈ g.pct ∧ 0 ≤ y ∧ y < 1000000000 then _ else _) Q E
 rw [if_pos e]; exact q
theorem k_eq {Q : Pst Bool} (q : Q (decide (x = y)) L h n k) : Wp (cmpv g C .eq (.int x) (.int y) ⟨L, h, n, k⟩) Q E := q
theorem k_ne {Q : Pst Bool} (q : Q (!decide (x = y)) L h n k) : Wp (cmpv g C .ne (.int x) (.int y) ⟨L, h, n, k⟩) Q E := q
theorem k_lt {Q : Pst Bool} (q : Q (decide (x < y)) L h n k) : Wp (cmpv g C .lt (.int x) (.int y) ⟨L, h, n, k⟩) Q E := q
theorem k_le {Q : Pst Bool} (q : Q (decide (x ≤ y)) L h n k) : Wp (cmpv g C .le (.int x) (.int y) ⟨L, h, n, k⟩) Q E := q
theorem k_gt {Q : Pst Bool} (q : Q (decide (x > y)) L h n k) : Wp (cmpv g C .gt (.int x) (.int y) ⟨L, h, n, k⟩) Q E := q
end
theorem a_get {Q : Pst AV} {l c a : Nat} {as : Lo} {x : AV} (e : h l = some (.inst c as)) (hm : g.me c a = .data) (hx : get? as a = some x) (hp : x.plain = true) (q : Q x L h n k) : Wp (getA g C (.loc l) a ⟨L, h, n, k⟩) Q E := by
 show Wp (atObj ⟨L, h, n, k⟩ l _) Q E
 refine .atO e ?_
 unfold onInst
 dsimp only
 rw [hm]
 dsimp only
 rw [hx]
 exact .ifp hp q
theorem a_prop {Q : Pst AV} {l c a f j : Nat} {as : Lo} (e : s.heap l = some (.inst c as)) (hm : g.me c a = .prop f j) (w : Wp (callFn g C f [.loc l] [] s) (fun x L h n k => x.plain = true ∧ Q x L h n k) fun _ _ _ _ _ _ => False) : Wp (getA g C (.loc l) a s) Q E := by
 show Wp (atObj s l _) Q E
 refine .atO e ?_
 unfold onInst
 dsimp only
 rw [hm]
 exact .only (w.imp fun x _ _ _ _ w => .ifp w.1 w.2)
theorem a_set {Q : Pst Unit} {l c a : Nat} {as : Lo} {x : AV} (e : h l = some (.inst c as)) (hm : g.me c a = .data) (hl : as.length ≤ 20) (q : Q () L (upd h l (.inst c (put as a x))) n k) : Wp (setA g C (.loc l) a x ⟨L, h, n, k⟩) Q E := by
 show Wp (atObj ⟨L, h, n, k⟩ l _) Q E
 refine .atO e ?_
 unfold onInst
 dsimp only
 rw [hm]
 exact .ifp (r := R.ok _ _) hl q
theorem a_setp {Q : Pst Unit} {l c a j f : Nat} {as : Lo} {x : AV} (e : s.heap l = some (.inst c as)) (hm : g.me c a = .prop j f) (w : Wp (callFn g C f [.loc l, x] [] s) (fun _ L h n k => Q () L h n k) E) : Wp (setA g C (.loc l) a x s) Q E := by
 show Wp (atObj s l _) Q E
 refine .atO e ?_
 unfold onInst
 dsimp only
 rw [hm]
 exact .bnd w
theorem m_inst {l c m f : Nat} {as : Lo} (e : h l = some (.inst c as)) (hm : g.me c m = .fn f) (hx : get? as m = none) : methodOf g (.loc l) m ⟨L, h, n, k⟩ = some (.fn f) := by
 unfold methodOf
 dsimp only
 rw [e]
 dsimp only
 rw [hm, hx]
end
end
local macro_rules | `(tactic| walk_at "v") => do
 let mut t ← `(tactic| first | with_unfolding_all exact rfl | assumption)
 for n in "v_lv v_sub v_add v_gv v_cs v_cb v_cn v_ci vs_nil vs_cons".splitOn " " do
  t ← `(tactic| first | apply $(Lean.mkIdent (.mkSimple n)) | $t:tactic)
 `(tactic| repeat $t:tactic)
local macro_rules | `(tactic| walk_at "e") => do
 let mut t ← `(tactic| fail)
 for w in "1it_f 1it_t t_none go_cont go_ret bk_next bk_ret 1x_aug e_dct0 x_ret0 x_assert ks_cons e_cmp2 x_cont xs_nil x_asg2 x_raise x_asgI e_tup e_lst e_ife e_band b_cons b_one x_ret e_not e_sub k_ne k_le k_gt k_lt k_eq o_sub o_add t_bool e_bin e_cmp x_ife x_expr 1e_call e_mcall x_asgA x_asg e_gv xs_cons ks_nil es_cons es_nil e_attr e_cs e_cb e_cn e_ci 1e_lv 1p_es 2p_cmp 2p_bin 2p_sub 1p_attr 2p_call 2p_mcall go_next 1p_ret 1p_asg".splitOn " " do
  let k := if w.front.isDigit then w.front.toNat - 48 else 0
  let mut a ← `(tactic| apply $(Lean.mkIdent (.mkSimple (w.drop (min k 1)).toString)))
  for _ in [0:k] do a ← `(tactic| ($a:tactic; (· walk_at "v")))
  t ← `(tactic| first | $a:tactic | $t:tactic)
 `(tactic| with_reducible $t:tactic)
local macro_rules | `(tactic| walk_at "a") => `(tactic| (apply a_get; (· assumption); (· rfl); (· rfl); (· rfl)))
section
open PySem
structure Nd where
 w : Int
 act : Bool
 lw : Int
 df : Int
 par : Option Int
 kids : List Int
 queue : List (Int × Int)
abbrev Tr := Int → Option Nd
abbrev Fo := Nat → Tr
noncomputable def setN (T : Tr) (i : Int) (nd : Nd) : Tr := fun j => if j = i then some nd else T j
noncomputable def setT (Φ : Fo) (t : Nat) (T : Tr) : Fo := fun u => if u = t then T else Φ u
noncomputable def drop (G : Hp) (l : Nat) : Hp := fun x => if x = l then none else G x
theorem upd_same (h : Hp) (l : Nat) (o : AO) : upd h l o l = some o := if_pos rfl
theorem upd_ne (h : Hp) {l x : Nat} (o : AO) (e : x ≠ l) : upd h l o x = h x := if_neg e
theorem setN_same (T : Tr) (i : Int) (nd : Nd) : setN T i nd i = some nd := if_pos rfl
theorem setN_ne (T : Tr) {i j : Int} (nd : Nd) (e : j ≠ i) : setN T i nd j = T j := if_neg e
theorem setT_same (Φ : Fo) (t : Nat) (T : Tr) : setT Φ t T t = T := if_pos rfl
theorem setT_ne (Φ : Fo) {t u : Nat} (T : Tr) (e : u ≠ t) : setT Φ t T u = Φ u := if_neg e
theorem setT_setT (Φ : Fo) (t : Nat) (T T' : Tr) : setT (setT Φ t T) t T' = setT Φ t T' := by
 funext u; unfold setT; split <;> rfl
theorem setT_self (Φ : Fo) (t : Nat) : setT Φ t (Φ t) = Φ := by
 funext u; unfold setT; split
 ·rename_i h; rw [h]
 ·rfl
abbrev Ad := Nat → Int → Nat
noncomputable def parV (A : Ad) (t : Nat) : Option Int → AV
 | none => .none
 | some p => .loc (A t p)
noncomputable abbrev ats (A : Ad) (t : Nat) (i : Int) (nd : Nd) (c q : Nat) : List (Nat × AV) := [(21, .int i), (30, .int nd.w), (24, .loc c), (25, parV A t nd.par), (26, .loc q), (27, .bool nd.act), (28, .int nd.lw), (29, .int nd.df)]
abbrev kidsO (A : Ad) (t : Nat) (ks : List Int) : AO := .list (ks.map fun j => .loc (A t j))
abbrev entsO (es : List Nat) : AO := .list (es.map .loc)
noncomputable def Ents (A : Ad) (t : Nat) (h : Hp) : List Nat → List (Int × Int) → Prop
 | [], [] => True
 | e :: es, (lv, i) :: q => h e = some (.tup [.int lv, .loc (A t i)]) ∧ Ents A t h es q
 | _, _ => False
structure Rep (A cl ql : Ad) (Φ : Fo) (G h : Hp) (n : Nat) : Prop where
 node : ∀ t i nd, Φ t i = some nd → h (A t i) = some (.inst 19 (ats A t i nd (cl t i) (ql t i)))
 kids : ∀ t i nd, Φ t i = some nd → h (cl t i) = some (kidsO A t nd.kids)
 queue : ∀ t i nd, Φ t i = some nd → ∃ es, h (ql t i) = some (entsO es) ∧ Ents A t h es nd.queue
 aa : ∀ t i u j, Φ t i ≠ none → Φ u j ≠ none → A t i = A u j → t = u ∧ i = j
 cc : ∀ t i u j, Φ t i ≠ none → Φ u j ≠ none → cl t i = cl u j → t = u ∧ i = j
 qq : ∀ t i u j, Φ t i ≠ none → Φ u j ≠ none → ql t i = ql u j → t = u ∧ i = j
 cq : ∀ t i u j, Φ t i ≠ none → Φ u j ≠ none → cl t i ≠ ql u j
 old : ∀ l o, G l = some o → h l = some o
 free : ∀ l o, G l = some o → ∀ t i, Φ t i ≠ none → A t i ≠ l ∧ cl t i ≠ l ∧ ql t i ≠ l
 lt : ∀ l o, h l = some o → l < n
noncomputable def isTup : AO → Bool
 | .tup _ => true
 | _ => false
section
variable {A cl ql : Ad} {Φ : Fo} {G h h' : Hp} {n : Nat} {t : Nat} {i : Int} {nd nd' : Nd} {l : Nat} {o : AO}
theorem Ents.keep {es : List Nat} {q : List (Int × Int)} (k : ∀ e x, h e = some (.tup x) → h' e = some (.tup x)) (x : Ents A t h es q) : Ents A t h' es q := by
 induction es generalizing q with
 | nil => cases q <;> exact x
 | cons e es ih =>
  cases q with
  | nil => exact x
  | cons p q => exact ⟨k _ _ x.1, ih x.2⟩
theorem keepTup (e : h l = some o) (nt : isTup o = false) (o' : AO) : ∀ e x, h e = some (.tup x) → upd h l o' e = some (.tup x) := fun b x hb => by
 rw [upd_ne]
 ·exact hb
 ·rintro rfl; rw [e] at hb; cases hb; exact tfE nt
theorem setF_dom (hn : Φ t i = some nd) {u : Nat} {j : Int} (e : setT Φ t (setN (Φ t) i nd') u j ≠ none) : Φ u j ≠ none := by
 unfold setT setN at e
 split at e
 ·rename_i q; subst q
  dsimp only at e
  split at e
  ·rename_i q; subst q; rw [hn]; nofun
  ·exact e
 ·exact e
theorem setF_at {u : Nat} {j : Int} {x : Nd} (e : setT Φ t (setN (Φ t) i nd') u j = some x) : (u = t ∧ j = i ∧ x = nd') ∨ (¬ (u = t ∧ j = i) ∧ Φ u j = some x) := by
 unfold setT setN at e
 split at e
 ·rename_i q; subst q
  dsimp only at e
  split at e
  ·rename_i q; subst q; cases e; exact .inl ⟨rfl, rfl, rfl⟩
  ·rename_i q; exact .inr ⟨fun w => q w.2, e⟩
 ·rename_i q; exact .inr ⟨fun w => q w.1, e⟩
theorem Rep.updNode (R : Rep A cl ql Φ G h n) (hn : Φ t i = some nd) (hk : nd'.kids = nd.kids) (hq : nd'.queue = nd.queue) :
  Rep A cl ql (setT Φ t (setN (Φ t) i nd')) G (upd h (A t i) (.inst 19 (ats A t i nd' (cl t i) (ql t i)))) n := by
 have kt := keepTup (R.node _ _ _ hn) rfl
 have dn : Φ t i ≠ none := by rw [hn]; nofun
 refine ⟨fun u j x e => ?_, fun u j x e => ?_, fun u j x e => ?_, fun u j v k h1 h2 => R.aa _ _ _ _ (setF_dom hn h1) (setF_dom hn h2), fun u j v k h1 h2 => R.cc _ _ _ _ (setF_dom hn h1) (setF_dom hn h2), fun u j v k h1 h2 => R.qq _ _ _ _ (setF_dom hn h1) (setF_dom hn h2), fun u j v k h1 h2 => R.cq _ _ _ _ (setF_dom hn h1) (setF_dom hn h2),
  fun l o e => ?_, fun l o e u j h1 => R.free l o e u j (setF_dom hn h1), fun l o e => ?_⟩
 ·rcases setF_at e with ⟨rfl, rfl, rfl⟩ | ⟨q, e⟩
  ·exact upd_same ..
  ·rw [upd_ne _ _ fun w => q (R.aa _ _ _ _ (by rw [e]; nofun) dn w)]; exact R.node _ _ _ e
 ·have : ∀ y, Φ u j = some y → upd h (A t i) (.inst 19 (ats A t i nd' (cl t i) (ql t i))) (cl u j) = some (kidsO A u y.kids) := fun y e => by
   rw [upd_ne _ _ fun w => by have := R.kids _ _ _ e; rw [w, R.node _ _ _ hn] at this; cases this]; exact R.kids _ _ _ e
  rcases setF_at e with ⟨rfl, rfl, rfl⟩ | ⟨q, e⟩
  ·rw [hk]; exact this _ hn
  ·exact this _ e
 ·have : ∀ y, Φ u j = some y → ∃ es, upd h (A t i) (.inst 19 (ats A t i nd' (cl t i) (ql t i))) (ql u j) = some (entsO es) ∧ Ents A u (upd h (A t i) (.inst 19 (ats A t i nd' (cl t i) (ql t i)))) es y.queue := fun y e => by
   refine xo1_2 (R.queue _ _ _ e) fun es e1 e2 => ?_
   exact ⟨es, by rw [upd_ne _ _ fun w => by rw [w, R.node _ _ _ hn] at e1; cases e1]; exact e1, e2.keep (kt _)⟩
  rcases setF_at e with ⟨rfl, rfl, rfl⟩ | ⟨q, e⟩
  ·rw [hq]; exact this _ hn
  ·exact this _ e
 ·rw [upd_ne _ _ fun w => (R.free l o e _ _ dn).1 w.symm]; exact R.old _ _ e
 ·by_cases q : l = A t i
  ·rw [q]; exact R.lt _ _ (R.node _ _ _ hn)
  ·rw [upd_ne _ _ q] at e; exact R.lt _ _ e
theorem Rep.updKids (R : Rep A cl ql Φ G h n) (hn : Φ t i = some nd) (ks : List Int) :
  Rep A cl ql (setT Φ t (setN (Φ t) i { nd with kids := ks })) G (upd h (cl t i) (kidsO A t ks)) n := by
 have kt := keepTup (R.kids _ _ _ hn) rfl
 have dn : Φ t i ≠ none := by rw [hn]; nofun
 refine ⟨fun u j x e => ?_, fun u j x e => ?_, fun u j x e => ?_, fun u j v k h1 h2 => R.aa _ _ _ _ (setF_dom hn h1) (setF_dom hn h2), fun u j v k h1 h2 => R.cc _ _ _ _ (setF_dom hn h1) (setF_dom hn h2), fun u j v k h1 h2 => R.qq _ _ _ _ (setF_dom hn h1) (setF_dom hn h2), fun u j v k h1 h2 => R.cq _ _ _ _ (setF_dom hn h1) (setF_dom hn h2),
  fun l o e => ?_, fun l o e u j h1 => R.free l o e u j (setF_dom hn h1), fun l o e => ?_⟩
 ·have : ∀ y, Φ u j = some y → upd h (cl t i) (kidsO A t ks) (A u j) = some (.inst 19 (ats A u j y (cl u j) (ql u j))) := fun y e => by
   rw [upd_ne _ _ fun w => by have := R.node _ _ _ e; rw [w, R.kids _ _ _ hn] at this; cases this]; exact R.node _ _ _ e
  rcases setF_at e with ⟨rfl, rfl, rfl⟩ | ⟨q, e⟩
  ·exact this nd hn
  ·exact this _ e
 ·rcases setF_at e with ⟨rfl, rfl, rfl⟩ | ⟨q, e⟩
  ·exact upd_same ..
  ·rw [upd_ne _ _ fun w => q (R.cc _ _ _ _ (by rw [e]; nofun) dn w)]; exact R.kids _ _ _ e
 ·have : ∀ y, Φ u j = some y → ∃ es, upd h (cl t i) (kidsO A t ks) (ql u j) = some (entsO es) ∧ Ents A u (upd h (cl t i) (kidsO A t ks)) es y.queue := fun y e => by
   refine xo1_2 (R.queue _ _ _ e) fun es e1 e2 => ?_
   exact ⟨es, by rw [upd_ne _ _ fun w => R.cq _ _ _ _ dn (by rw [e]; nofun) w.symm]; exact e1, e2.keep (kt _)⟩
  rcases setF_at e with ⟨rfl, rfl, rfl⟩ | ⟨q, e⟩
  ·exact this nd hn
  ·exact this _ e
 ·rw [upd_ne _ _ fun w => (R.free l o e _ _ dn).2.1 w.symm]; exact R.old _ _ e
 ·by_cases q : l = cl t i
  ·rw [q]; exact R.lt _ _ (R.kids _ _ _ hn)
  ·rw [upd_ne _ _ q] at e; exact R.lt _ _ e
theorem Rep.updQueue (R : Rep A cl ql Φ G h n) (hn : Φ t i = some nd) {es : List Nat} {q : List (Int × Int)} (hes : Ents A t h es q) :
  Rep A cl ql (setT Φ t (setN (Φ t) i { nd with queue := q })) G (upd h (ql t i) (entsO es)) n := by
 refine xo1_2 (R.queue _ _ _ hn) fun es0 q0 _ => ?_
 have kt := keepTup q0 rfl
 have dn : Φ t i ≠ none := by rw [hn]; nofun
 refine ⟨fun u j x e => ?_, fun u j x e => ?_, fun u j x e => ?_, fun u j v k h1 h2 => R.aa _ _ _ _ (setF_dom hn h1) (setF_dom hn h2), fun u j v k h1 h2 => R.cc _ _ _ _ (setF_dom hn h1) (setF_dom hn h2), fun u j v k h1 h2 => R.qq _ _ _ _ (setF_dom hn h1) (setF_dom hn h2), fun u j v k h1 h2 => R.cq _ _ _ _ (setF_dom hn h1) (setF_dom hn h2),
  fun l o e => ?_, fun l o e u j h1 => R.free l o e u j (setF_dom hn h1), fun l o e => ?_⟩
 ·have : ∀ y, Φ u j = some y → upd h (ql t i) (entsO es) (A u j) = some (.inst 19 (ats A u j y (cl u j) (ql u j))) := fun y e => by
   rw [upd_ne _ _ fun w => by have := R.node _ _ _ e; rw [w, q0] at this; cases this]; exact R.node _ _ _ e
  rcases setF_at e with ⟨rfl, rfl, rfl⟩ | ⟨q, e⟩
  ·exact this nd hn
  ·exact this _ e
 ·have : ∀ y, Φ u j = some y → upd h (ql t i) (entsO es) (cl u j) = some (kidsO A u y.kids) := fun y e => by
   rw [upd_ne _ _ fun w => R.cq _ _ _ _ (by rw [e]; nofun) dn w]; exact R.kids _ _ _ e
  rcases setF_at e with ⟨rfl, rfl, rfl⟩ | ⟨q, e⟩
  ·exact this nd hn
  ·exact this _ e
 ·rcases setF_at e with ⟨rfl, rfl, rfl⟩ | ⟨qn, e⟩
  ·exact ⟨es, upd_same .., hes.keep (kt _)⟩
  ·refine xo1_2 (R.queue _ _ _ e) fun es' e1 e2 => ?_
   exact ⟨es', by rw [upd_ne _ _ fun w => qn (R.qq _ _ _ _ (by rw [e]; nofun) dn w)]; exact e1, e2.keep (kt _)⟩
 ·rw [upd_ne _ _ fun w => (R.free l o e _ _ dn).2.2 w.symm]; exact R.old _ _ e
 ·by_cases q : l = ql t i
  ·rw [q]; exact R.lt _ _ q0
  ·rw [upd_ne _ _ q] at e; exact R.lt _ _ e
theorem Rep.new (R : Rep A cl ql Φ G h n) (o : AO) : Rep A cl ql Φ (upd G n o) (upd h n o) (n + 1) := by
 have hn : h n = none := by
  cases q : h n with
  | none => rfl
  | some x => exact absurd (R.lt _ _ q) (Nat.lt_irrefl _)
 have k : ∀ l x, h l = some x → upd h n o l = some x := fun l x e => by
  rw [upd_ne]
  ·exact e
  ·rintro rfl; rw [hn] at e; exact nsE e
 refine ⟨fun u j x e => k _ _ (R.node _ _ _ e), fun u j x e => k _ _ (R.kids _ _ _ e), fun u j x e => ?_, R.aa, R.cc, R.qq, R.cq, fun l x e => ?_, fun l x e u j h1 => ?_, fun l x e => ?_⟩
 ·refine xo1_2 (R.queue _ _ _ e) fun es e1 e2 => ?_
  exact ⟨es, k _ _ e1, e2.keep fun _ _ => k _ _⟩
 ·by_cases q : l = n
  ·subst q; rw [upd_same] at e ⊢; exact e
  ·rw [upd_ne _ _ q] at e ⊢; exact R.old _ _ e
 ·by_cases q : l = n
  ·subst q
   refine xo1_1 (Option.ne_none_iff_exists'.mp h1) fun nd hd => ?_
   refine xo1_2 (R.queue _ _ _ hd) fun es e1 _ => ?_
   refine ⟨fun w => ?_, fun w => ?_, fun w => ?_⟩
   ·have := R.node _ _ _ hd; rw [w, hn] at this; exact nsE this
   ·have := R.kids _ _ _ hd; rw [w, hn] at this; exact nsE this
   ·rw [w, hn] at e1; exact nsE e1
  ·rw [upd_ne _ _ q] at e; exact R.free _ _ e _ _ h1
 ·by_cases q : l = n
  ·omega
  ·rw [upd_ne _ _ q] at e; exact Nat.lt_succ_of_lt (R.lt _ _ e)
theorem Rep.put (R : Rep A cl ql Φ G h n) (hl : G l = some o) (nt : isTup o = false) (o' : AO) : Rep A cl ql Φ (upd G l o') (upd h l o') n := by
 have kt := keepTup (R.old _ _ hl) nt
 have ne : ∀ u j, Φ u j ≠ none → A u j ≠ l ∧ cl u j ≠ l ∧ ql u j ≠ l := R.free _ _ hl
 have dm : ∀ {u j x}, Φ u j = some x → Φ u j ≠ none := fun e => by rw [e]; nofun
 refine ⟨fun u j x e => ?_, fun u j x e => ?_, fun u j x e => ?_, R.aa, R.cc, R.qq, R.cq, fun m x e => ?_, fun m x e u j h1 => ?_, fun m x e => ?_⟩
 ·rw [upd_ne _ _ (ne _ _ (dm e)).1]; exact R.node _ _ _ e
 ·rw [upd_ne _ _ (ne _ _ (dm e)).2.1]; exact R.kids _ _ _ e
 ·refine xo1_2 (R.queue _ _ _ e) fun es e1 e2 => ?_
  exact ⟨es, by rw [upd_ne _ _ (ne _ _ (dm e)).2.2]; exact e1, e2.keep (kt _)⟩
 ·by_cases q : m = l
  ·subst q; rw [upd_same] at e ⊢; exact e
  ·rw [upd_ne _ _ q] at e ⊢; exact R.old _ _ e
 ·by_cases q : m = l
  ·subst q; exact ne _ _ h1
  ·rw [upd_ne _ _ q] at e; exact R.free _ _ e _ _ h1
 ·by_cases q : m = l
  ·subst q; exact R.lt _ _ (R.old _ _ hl)
  ·rw [upd_ne _ _ q] at e; exact R.lt _ _ e
theorem Rep.sub {G' : Hp} (R : Rep A cl ql Φ G h n) (s : ∀ l o, G' l = some o → G l = some o) : Rep A cl ql Φ G' h n :=
 ⟨R.node, R.kids, R.queue, R.aa, R.cc, R.qq, R.cq, fun l o e => R.old _ _ (s _ _ e), fun l o e => R.free _ _ (s _ _ e), R.lt⟩
end
end
section
open PySem
noncomputable def updA (A : Ad) (t : Nat) (i : Int) (a : Nat) : Ad := fun u j => if u = t ∧ j = i then a else A u j
theorem updA_same (A : Ad) (t : Nat) (i : Int) (a : Nat) : updA A t i a t i = a := if_pos ⟨rfl, rfl⟩
theorem updA_ne (A : Ad) {t u : Nat} {i j : Int} (a : Nat) (e : ¬ (u = t ∧ j = i)) : updA A t i a u j = A u j := if_neg e
section
variable {A cl ql : Ad} {Φ : Fo} {G h h' : Hp} {n : Nat} {t : Nat} {i : Int} {nd nd' : Nd} {l : Nat} {o : AO}
theorem drop_some {x : AO} {m : Nat} (e : drop G l m = some x) : m ≠ l ∧ G m = some x := by
 unfold drop at e
 split at e
 ·exact nsE e
 ·exact ⟨‹_›, e⟩
theorem Rep.adoptKids (R : Rep A cl ql Φ G h n) (hn : Φ t i = some nd) {ks : List Int} (hl : G l = some (kidsO A t ks)) :
  Rep A (updA cl t i l) ql (setT Φ t (setN (Φ t) i { nd with kids := ks })) (upd (drop G l) (cl t i) (kidsO A t nd.kids)) (upd h (A t i) (.inst 19 (ats A t i nd l (ql t i)))) n := by
 have kt := keepTup (R.node _ _ _ hn) rfl
 have dn : Φ t i ≠ none := by rw [hn]; nofun
 have dm : ∀ {u j x}, Φ u j = some x → Φ u j ≠ none := fun e => by rw [e]; nofun
 have fr := R.free _ _ hl
 have nA : ∀ {m x}, h m = some x → (∀ c a, x ≠ .inst c a) → m ≠ A t i := fun e q w => by rw [w, R.node _ _ _ hn] at e; cases e; exact q _ _ rfl
 refine ⟨fun u j x e => ?_, fun u j x e => ?_, fun u j x e => ?_, fun u j v k h1 h2 => R.aa _ _ _ _ (setF_dom hn h1) (setF_dom hn h2), fun u j v k h1 h2 w => ?_, fun u j v k h1 h2 => R.qq _ _ _ _ (setF_dom hn h1) (setF_dom hn h2), fun u j v k h1 h2 w => ?_,
  fun m o e => ?_, fun m o e u j h1 => ?_, fun m o e => ?_⟩
 ·rcases setF_at e with ⟨rfl, rfl, rfl⟩ | ⟨q, e⟩
  ·rw [upd_same, updA_same]
  ·rw [upd_ne _ _ fun w => q (R.aa _ _ _ _ (dm e) dn w), updA_ne _ _ q]; exact R.node _ _ _ e
 ·rcases setF_at e with ⟨rfl, rfl, rfl⟩ | ⟨q, e⟩
  ·rw [updA_same, upd_ne _ _ fun w => (fr _ _ dn).1 w.symm]; exact R.old _ _ hl
  ·rw [updA_ne _ _ q, upd_ne _ _ (nA (R.kids _ _ _ e) nofun)]; exact R.kids _ _ _ e
 ·have : ∀ y, Φ u j = some y → ∃ es, upd h (A t i) (.inst 19 (ats A t i nd l (ql t i))) (ql u j) = some (entsO es) ∧ Ents A u (upd h (A t i) (.inst 19 (ats A t i nd l (ql t i)))) es y.queue := fun y e => by
   refine xo1_2 (R.queue _ _ _ e) fun es e1 e2 => ?_
   exact ⟨es, by rw [upd_ne _ _ (nA e1 nofun)]; exact e1, e2.keep (kt _)⟩
  rcases setF_at e with ⟨rfl, rfl, rfl⟩ | ⟨q, e⟩
  ·exact this nd hn
  ·exact this _ e
 ·replace h1 := setF_dom hn h1
  replace h2 := setF_dom hn h2
  by_cases q : u = t ∧ j = i <;> by_cases q' : v = t ∧ k = i
  ·exact ⟨q.1.trans q'.1.symm, q.2.trans q'.2.symm⟩
  ·refine xo0_2 q fun e0_ e1_ => ?_; clear q; obtain rfl := e0_; obtain rfl := e1_
   rw [updA_same, updA_ne _ _ q'] at w
   exact ((fr _ _ h2).2.1 w.symm).elim
  ·refine xo0_2 q' fun e0_ e1_ => ?_; clear q'; obtain rfl := e0_; obtain rfl := e1_
   rw [updA_same, updA_ne _ _ q] at w
   exact ((fr _ _ h1).2.1 w).elim
  ·rw [updA_ne _ _ q, updA_ne _ _ q'] at w
   exact R.cc _ _ _ _ h1 h2 w
 ·replace h1 := setF_dom hn h1
  replace h2 := setF_dom hn h2
  by_cases q : u = t ∧ j = i
  ·refine xo0_2 q fun e0_ e1_ => ?_; clear q; obtain rfl := e0_; obtain rfl := e1_
   rw [updA_same] at w
   exact (fr _ _ h2).2.2 w.symm
  ·rw [updA_ne _ _ q] at w
   exact R.cq _ _ _ _ h1 h2 w
 ·by_cases q : m = cl t i
  ·subst q
   rw [upd_same] at e
   obtain rfl := Option.some.inj e
   rw [upd_ne _ _ (nA (R.kids _ _ _ hn) nofun)]; exact R.kids _ _ _ hn
  ·rw [upd_ne _ _ q] at e
   refine xo0_2 (drop_some e) fun e1 e2 => ?_
   rw [upd_ne _ _ fun w => (R.free _ _ e2 _ _ dn).1 w.symm]
   exact R.old _ _ e2
 ·replace h1 := setF_dom hn h1
  by_cases q : m = cl t i
  ·subst q
   refine xo1_1 (Option.ne_none_iff_exists'.mp h1) fun x hx => ?_
   refine ⟨fun w => ?_, fun w => ?_, fun w => R.cq _ _ _ _ dn h1 w.symm⟩
   ·have := R.node _ _ _ hx; rw [w, R.kids _ _ _ hn] at this; exact absurd this nofun
   ·by_cases q : u = t ∧ j = i
    ·refine xo0_2 q fun e0_ e1_ => ?_; clear q; obtain rfl := e0_; obtain rfl := e1_
     rw [updA_same] at w
     exact (fr _ _ dn).2.1 w.symm
    ·rw [updA_ne _ _ q] at w
     exact q (R.cc _ _ _ _ h1 dn w)
  ·rw [upd_ne _ _ q] at e
   refine xo0_2 (drop_some e) fun e1 e2 => ?_
   have f := R.free _ _ e2 _ _ h1
   refine ⟨f.1, ?_, f.2.2⟩
   by_cases q : u = t ∧ j = i
   ·refine xo0_2 q fun e0_ e1_ => ?_; clear q; obtain rfl := e0_; obtain rfl := e1_
    rw [updA_same]; exact fun w => e1 w.symm
   ·rw [updA_ne _ _ q]; exact f.2.1
 ·by_cases q : m = A t i
  ·rw [q]; exact R.lt _ _ (R.node _ _ _ hn)
  ·rw [upd_ne _ _ q] at e; exact R.lt _ _ e
theorem Rep.adoptQueue (R : Rep A cl ql Φ G h n) (hn : Φ t i = some nd) {es : List Nat} {qs : List (Int × Int)} (hl : G l = some (entsO es)) (hes : Ents A t h es qs) :
  Rep A cl (updA ql t i l) (setT Φ t (setN (Φ t) i { nd with queue := qs })) (drop G l) (upd h (A t i) (.inst 19 (ats A t i nd (cl t i) l))) n := by
 have kt := keepTup (R.node _ _ _ hn) rfl
 have dn : Φ t i ≠ none := by rw [hn]; nofun
 have dm : ∀ {u j x}, Φ u j = some x → Φ u j ≠ none := fun e => by rw [e]; nofun
 have fr := R.free _ _ hl
 have nA : ∀ {m x}, h m = some x → (∀ c a, x ≠ .inst c a) → m ≠ A t i := fun e q w => by rw [w, R.node _ _ _ hn] at e; cases e; exact q _ _ rfl
 refine ⟨fun u j x e => ?_, fun u j x e => ?_, fun u j x e => ?_, fun u j v k h1 h2 => R.aa _ _ _ _ (setF_dom hn h1) (setF_dom hn h2), fun u j v k h1 h2 => R.cc _ _ _ _ (setF_dom hn h1) (setF_dom hn h2), fun u j v k h1 h2 w => ?_, fun u j v k h1 h2 w => ?_,
  fun m o e => ?_, fun m o e u j h1 => ?_, fun m o e => ?_⟩
 ·rcases setF_at e with ⟨rfl, rfl, rfl⟩ | ⟨q, e⟩
  ·rw [upd_same, updA_same]
  ·rw [upd_ne _ _ fun w => q (R.aa _ _ _ _ (dm e) dn w), updA_ne _ _ q]; exact R.node _ _ _ e
 ·have : ∀ y, Φ u j = some y → upd h (A t i) (.inst 19 (ats A t i nd (cl t i) l)) (cl u j) = some (kidsO A u y.kids) := fun y e => by
   rw [upd_ne _ _ (nA (R.kids _ _ _ e) nofun)]; exact R.kids _ _ _ e
  rcases setF_at e with ⟨rfl, rfl, rfl⟩ | ⟨q, e⟩
  ·exact this nd hn
  ·exact this _ e
 ·rcases setF_at e with ⟨rfl, rfl, rfl⟩ | ⟨q, e⟩
  ·rw [updA_same, upd_ne _ _ fun w => (fr _ _ dn).1 w.symm]; exact ⟨es, R.old _ _ hl, hes.keep (kt _)⟩
  ·refine xo1_2 (R.queue _ _ _ e) fun es e1 e2 => ?_
   exact ⟨es, by rw [updA_ne _ _ q, upd_ne _ _ (nA e1 nofun)]; exact e1, e2.keep (kt _)⟩
 ·replace h1 := setF_dom hn h1
  replace h2 := setF_dom hn h2
  by_cases q : u = t ∧ j = i <;> by_cases q' : v = t ∧ k = i
  ·exact ⟨q.1.trans q'.1.symm, q.2.trans q'.2.symm⟩
  ·refine xo0_2 q fun e0_ e1_ => ?_; clear q; obtain rfl := e0_; obtain rfl := e1_
   rw [updA_same, updA_ne _ _ q'] at w
   exact ((fr _ _ h2).2.2 w.symm).elim
  ·refine xo0_2 q' fun e0_ e1_ => ?_; clear q'; obtain rfl := e0_; obtain rfl := e1_
   rw [updA_same, updA_ne _ _ q] at w
   exact ((fr _ _ h1).2.2 w).elim
  ·rw [updA_ne _ _ q, updA_ne _ _ q'] at w
   exact R.qq _ _ _ _ h1 h2 w
 ·replace h1 := setF_dom hn h1
  replace h2 := setF_dom hn h2
  by_cases q : v = t ∧ k = i
  ·refine xo0_2 q fun e0_ e1_ => ?_; clear q; obtain rfl := e0_; obtain rfl := e1_
   rw [updA_same] at w
   exact (fr _ _ h1).2.1 w
  ·rw [updA_ne _ _ q] at w
   exact R.cq _ _ _ _ h1 h2 w
 ·refine xo0_2 (drop_some e) fun e1 e2 => ?_
  rw [upd_ne _ _ fun w => (R.free _ _ e2 _ _ dn).1 w.symm]
  exact R.old _ _ e2
 ·replace h1 := setF_dom hn h1
  refine xo0_2 (drop_some e) fun e1 e2 => ?_
  have f := R.free _ _ e2 _ _ h1
  refine ⟨f.1, f.2.1, ?_⟩
  by_cases q : u = t ∧ j = i
  ·refine xo0_2 q fun e0_ e1_ => ?_; clear q; obtain rfl := e0_; obtain rfl := e1_
   rw [updA_same]; exact fun w => e1 w.symm
  ·rw [updA_ne _ _ q]; exact f.2.2
 ·by_cases q : m = A t i
  ·rw [q]; exact R.lt _ _ (R.node _ _ _ hn)
  ·rw [upd_ne _ _ q] at e; exact R.lt _ _ e
noncomputable def NoRef (T : Tr) (i : Int) : Prop := T i = none ∧ ∀ j nd, T j = some nd → i ∉ nd.kids ∧ (∀ p ∈ nd.queue, p.2 ≠ i) ∧ nd.par ≠ some i
abbrev nd0 (w : Int) : Nd := ⟨w, true, 0, 0, none, [], []⟩
theorem Ents.ren {A' : Ad} {es : List Nat} {q : List (Int × Int)} (e : ∀ p ∈ q, A' t p.2 = A t p.2) (x : Ents A t h es q) : Ents A' t h es q := by
 induction es generalizing q with
 | nil => cases q <;> exact x
 | cons b es ih =>
  cases q with
  | nil => exact x
  | cons p q => exact ⟨by rw [e p (.head _)]; exact x.1, ih (fun p hp => e p (.tail _ hp)) x.2⟩
theorem updA_inj {A : Ad} {t : Nat} {i : Int} {a : Nat} {D D' : Nat → Int → Prop} (dom : ∀ {u j}, D' u j → (u = t ∧ j = i) ∨ (¬ (u = t ∧ j = i) ∧ D u j)) (fr : ∀ {u j}, D u j → A u j ≠ a) (inj : ∀ u j v k, D u j → D v k → A u j = A v k → u = v ∧ j = k) :
  ∀ u j v k, D' u j → D' v k → updA A t i a u j = updA A t i a v k → u = v ∧ j = k := fun u j v k h1 h2 w => by
 have at' : ∀ {u j}, u = t ∧ j = i → updA A t i a u j = a := fun e => if_pos e
 rcases dom h1 with e | ⟨q1, g1⟩ <;> rcases dom h2 with e' | ⟨q2, g2⟩
 ·exact ⟨e.1.trans e'.1.symm, e.2.trans e'.2.symm⟩
 ·rw [at' e, updA_ne _ _ q2] at w; exact (fr g2 w.symm).elim
 ·rw [at' e', updA_ne _ _ q1] at w; exact (fr g1 w).elim
 ·rw [updA_ne _ _ q1, updA_ne _ _ q2] at w; exact inj _ _ _ _ g1 g2 w
theorem Rep.adoptNode (R : Rep A cl ql Φ G h n) (no : NoRef (Φ t) i) {a c q : Nat} {w : Int} (ha : G a = some (.inst 19 (ats A t i (nd0 w) c q))) (hc : G c = some (.list [])) (hq : G q = some (.list [])) (hcq : c ≠ q) :
  Rep (updA A t i a) (updA cl t i c) (updA ql t i q) (setT Φ t (setN (Φ t) i (nd0 w))) (drop (drop (drop G a) c) q) h n := by
 have dm : ∀ {u j x}, Φ u j = some x → Φ u j ≠ none ∧ ¬ (u = t ∧ j = i) := fun e => ⟨by rw [e]; nofun, fun w => by obtain ⟨rfl, rfl⟩ := w; rw [no.1] at e; cases e⟩
 have at' : ∀ {u j x}, setT Φ t (setN (Φ t) i (nd0 w)) u j = some x → (u = t ∧ j = i ∧ x = nd0 w) ∨ (¬ (u = t ∧ j = i) ∧ Φ u j = some x) := setF_at
 have dom : ∀ {u j}, setT Φ t (setN (Φ t) i (nd0 w)) u j ≠ none → (u = t ∧ j = i) ∨ (¬ (u = t ∧ j = i) ∧ Φ u j ≠ none) := fun h => by
  refine xo1_1 (Option.ne_none_iff_exists'.mp h) fun x hx => ?_
  rcases at' hx with ⟨a, b, _⟩ | ⟨a, b⟩
  ·exact .inl ⟨a, b⟩
  ·exact .inr ⟨a, by rw [b]; nofun⟩
 have fa := R.free _ _ ha
 have fc := R.free _ _ hc
 have fq := R.free _ _ hq
 have refs : ∀ {u j x}, Φ u j = some x → ats (updA A t i a) u j x = ats A u j x := fun {u j x} e => by
  funext c q
  have : parV (updA A t i a) u x.par = parV A u x.par := by
   cases p : x.par with
   | none => rfl
   | some k =>
    show AV.loc _ = AV.loc _
    rw [updA_ne]
    rintro ⟨rfl, rfl⟩
    exact (no.2 _ _ e).2.2 p
  unfold ats
  rw [this]
 have hca : c ≠ a := fun w => by rw [w, ha] at hc; exact absurd hc nofun
 have hqa : q ≠ a := fun w => by rw [w, ha] at hq; exact absurd hq nofun
 refine ⟨fun u j x e => ?_, fun u j x e => ?_, fun u j x e => ?_, updA_inj dom (fun g => (fa _ _ g).1) R.aa, updA_inj dom (fun g => (fc _ _ g).2.1) R.cc, updA_inj dom (fun g => (fq _ _ g).2.2) R.qq, fun u j v k h1 h2 w => ?_, fun m o e => ?_, fun m o e u j h1 => ?_, R.lt⟩
 ·rcases at' e with ⟨rfl, rfl, rfl⟩ | ⟨q, e'⟩
  ·rw [updA_same, updA_same, updA_same]
   exact R.old _ _ ha
  ·rw [updA_ne _ _ q, updA_ne _ _ q, updA_ne _ _ q, refs e']; exact R.node _ _ _ e'
 ·rcases at' e with ⟨rfl, rfl, rfl⟩ | ⟨q, e'⟩
  ·rw [updA_same]; exact R.old _ _ hc
  ·rw [updA_ne _ _ q]
   refine (R.kids _ _ _ e').trans ?_
   refine congrArg (fun l => some (AO.list l)) (List.map_congr_left fun y hy => ?_)
   show AV.loc _ = AV.loc _
   rw [updA_ne]
   rintro ⟨rfl, rfl⟩
   exact (no.2 _ _ e').1 hy
 ·rcases at' e with ⟨rfl, rfl, rfl⟩ | ⟨q, e'⟩
  ·rw [updA_same]; exact ⟨[], R.old _ _ hq, trivial⟩
  ·rw [updA_ne _ _ q]
   refine xo1_2 (R.queue _ _ _ e') fun es e1 e2 => ?_
   refine ⟨es, e1, e2.ren fun p hp => updA_ne _ _ ?_⟩
   rintro ⟨rfl, q2⟩
   exact (no.2 _ _ e').2.1 p hp q2
 ·rcases dom h1 with ⟨rfl, rfl⟩ | ⟨q1, g1⟩ <;> rcases dom h2 with ⟨rfl, rfl⟩ | ⟨q2, g2⟩
  ·rw [updA_same, updA_same] at w; exact hcq w
  ·rw [updA_same, updA_ne _ _ q2] at w; exact (fc _ _ g2).2.2 w.symm
  ·rw [updA_same, updA_ne _ _ q1] at w; exact (fq _ _ g1).2.1 w
  ·rw [updA_ne _ _ q1, updA_ne _ _ q2] at w; exact R.cq _ _ _ _ g1 g2 w
 ·exact R.old _ _ (drop_some (drop_some (drop_some e).2).2).2
 ·refine xo0_2 (drop_some e) fun e1 e => ?_
  refine xo0_2 (drop_some e) fun e2 e => ?_
  refine xo0_2 (drop_some e) fun e3 e => ?_
  rcases dom h1 with ⟨rfl, rfl⟩ | ⟨q1, g1⟩
  ·rw [updA_same, updA_same, updA_same]
   exact ⟨fun w => e3 w.symm, fun w => e2 w.symm, fun w => e1 w.symm⟩
  ·rw [updA_ne _ _ q1, updA_ne _ _ q1, updA_ne _ _ q1]
   exact R.free _ _ e _ _ g1
end
end
section
open PySem PySem.W PyProof.Rows
section
variable {C : Nat → List AV → St → R AV} {E : Est} {k n : Nat} {h : Hp} {L : Lo} {s : St} {Q : Pst AV}
theorem bi_inst {b : Nat} {as : Lo} (e : h b = some (.inst 19 as)) (q : Q (.bool true) L h n k) : Wp (callV sg C (.gl 32) [.loc b, .gl 19] [] ⟨L, h, n, k⟩) Q E := by
 show Wp (atObj ⟨L, h, n, k⟩ b _) Q E
 exact .atO e q
theorem f11 (m : Nat) {a b : Nat} {as bs : Lo} {x y : Int} (ha : h a = some (.inst 19 as)) (hb : h b = some (.inst 19 bs)) (hx : get? as 21 = some (.int x)) (hy : get? bs 21 = some (.int y)) :
  callF sg (m + 1) 11 [.loc a, .loc b] ⟨L, h, n, k⟩ = .ok (.bool (decide (x = y))) ⟨L, h, n, k⟩ := by
 refine Wp.fin (c_in rfl ?_)
 show Wp (execs sg _ b11 ⟨[(20, .loc a), (1, .loc b)], h, n, k⟩) _ _
 delta b11
 repeat walk_at "e"
 refine bi_inst hb ?_
 repeat walk_at "e"
 refine a_get ha rfl hx rfl ?_
 repeat walk_at "e"
 refine a_get hb rfl hy rfl ?_
 repeat walk_at "e"
 exact ⟨rfl, rfl⟩
theorem f13 (m : Nat) {a b : Nat} {as bs : Lo} {x y : Int} (ha : h a = some (.inst 19 as)) (hb : h b = some (.inst 19 bs)) (hx : get? as 21 = some (.int x)) (hy : get? bs 21 = some (.int y)) :
  callF sg (m + 1) 13 [.loc a, .loc b] ⟨L, h, n, k⟩ = .ok (.bool (decide (x < y))) ⟨L, h, n, k⟩ := by
 refine Wp.fin (c_in rfl ?_)
 show Wp (execs sg _ b13 ⟨[(20, .loc a), (1, .loc b)], h, n, k⟩) _ _
 delta b13
 repeat walk_at "e"
 refine bi_inst hb ?_
 repeat walk_at "e"
 refine a_get ha rfl hx rfl ?_
 repeat walk_at "e"
 refine a_get hb rfl hy rfl ?_
 repeat walk_at "e"
 exact ⟨rfl, rfl⟩
theorem m_append {l : Nat} {xs : List AV} (e : h l = some (.list xs)) : methodOf sg (.loc l) 6 ⟨L, h, n, k⟩ = some .append := by
 show (match h l with | some (.inst c as) => (match sg.me c 6, get? as 6 with | .fn f, none => some (Mt.fn f) | _, _ => none) | some (.list _) => some .append | some (.dict _) => none | _ => none) = _
 rw [e]
theorem m_lpop {l : Nat} {xs : List AV} (e : h l = some (.list xs)) : methodOf sg (.loc l) 10 ⟨L, h, n, k⟩ = some .lpop := by
 show (match h l with | some (.inst c as) => (match sg.me c 10, get? as 10 with | .fn f, none => some (Mt.fn f) | _, _ => none) | some (.list _) => some .lpop | some (.dict _) => some .dpop | _ => none) = _
 rw [e]
theorem m_dpop {l : Nat} {xs : List (AV × AV)} (e : h l = some (.dict xs)) : methodOf sg (.loc l) 10 ⟨L, h, n, k⟩ = some .dpop := by
 show (match h l with | some (.inst c as) => (match sg.me c 10, get? as 10 with | .fn f, none => some (Mt.fn f) | _, _ => none) | some (.list _) => some .lpop | some (.dict _) => some .dpop | _ => none) = _
 rw [e]
theorem m_remove {l : Nat} {xs : List AV} (e : h l = some (.list xs)) : methodOf sg (.loc l) 43 ⟨L, h, n, k⟩ = some .remove := by
 show (match h l with | some (.inst c as) => (match sg.me c 43, get? as 43 with | .fn f, none => some (Mt.fn f) | _, _ => none) | some (.list _) => some .remove | some (.dict _) => none | _ => none) = _
 rw [e]
theorem c_append {l : Nat} {ys : List AV} {x : AV} (e : h l = some (.list ys)) (hl : ys.length ≤ 1000) (q : Q .none L (upd h l (.list (ys ++ [x]))) n k) : Wp (callMt sg C .append (.loc l) [x] [] ⟨L, h, n, k⟩) Q E := by
 show Wp (atObj ⟨L, h, n, k⟩ l _) Q E
 exact .atO e (.ifp (r := R.ok _ _) hl q)
theorem c_remove {l : Nat} {ys : List AV} {x : AV} (e : h l = some (.list ys)) (w : Wp (removeAt sg C l x (ys.length + 1) 0 ⟨L, h, n, k⟩) Q E) : Wp (callMt sg C .remove (.loc l) [x] [] ⟨L, h, n, k⟩) Q E := by
 show Wp (atObj ⟨L, h, n, k⟩ l _) Q E
 exact .atO e w
theorem c_dpop {l : Nat} {es : List (AV × AV)} {i : Int} {x : AV} (e : h l = some (.dict es)) (hx : dget? es (.int i) = some x) (q : Q x L (upd h l (.dict (ddel es (.int i)))) n k) : Wp (callMt sg C .dpop (.loc l) [.int i] [] ⟨L, h, n, k⟩) Q E := by
 show Wp (atObj ⟨L, h, n, k⟩ l _) Q E
 refine .atO e ?_
 unfold onDict
 dsimp only
 rw [hx]
 exact q
theorem c_dpop0 {l : Nat} {es : List (AV × AV)} {i : Int} (e : h l = some (.dict es)) (hx : dget? es (.int i) = none) (q : E 79 true L h n 0) : Wp (callMt sg C .dpop (.loc l) [.int i] [] ⟨L, h, n, 0⟩) Q E := by
 show Wp (atObj ⟨L, h, n, 0⟩ l _) Q E
 refine .atO e ?_
 unfold onDict
 dsimp only
 rw [hx]
 exact q
theorem c_lpop {l : Nat} {y : AV} {r : List AV} (e : h l = some (.list (y :: r))) (q : Q y L (upd h l (.list r)) n k) : Wp (callMt sg C .lpop (.loc l) [.int 0] [] ⟨L, h, n, k⟩) Q E := by
 show Wp (atObj ⟨L, h, n, k⟩ l _) Q E
 exact .atO e q
theorem c_lpop0 {l : Nat} (e : h l = some (.list [])) (q : E 52 true L h n 0) : Wp (callMt sg C .lpop (.loc l) [.int 0] [] ⟨L, h, n, 0⟩) Q E := by
 show Wp (atObj ⟨L, h, n, 0⟩ l _) Q E
 exact .atO e q
theorem bi_len {l : Nat} {xs : List AV} (e : h l = some (.list xs)) (q : Q (.int xs.length) L h n k) : Wp (callV sg C (.gl 8) [.loc l] [] ⟨L, h, n, k⟩) Q E := by
 show Wp (atObj ⟨L, h, n, k⟩ l _) Q E
 exact .atO e q
theorem bi_dlen {l : Nat} {xs : List (AV × AV)} (e : h l = some (.dict xs)) (q : Q (.int xs.length) L h n k) : Wp (callV sg C (.gl 8) [.loc l] [] ⟨L, h, n, k⟩) Q E := by
 show Wp (atObj ⟨L, h, n, k⟩ l _) Q E
 exact .atO e q
theorem i_list {l : Nat} {xs : List AV} {i : Int} {x : AV} (e : h l = some (.list xs)) (h0 : 0 ≤ i) (hx : xs[i.toNat]? = some x) (q : Q x L h n k) : Wp (getI sg (.loc l) (.int i) ⟨L, h, n, k⟩) Q E := by
 show Wp (atObj ⟨L, h, n, k⟩ l _) Q E
 refine .atO e ?_
 show Wp (itemR xs _ _) Q E
 unfold itemR
 rw [if_pos h0, hx]
 exact q
theorem i_tup {l : Nat} {xs : List AV} {i : Nat} {x : AV} (e : h l = some (.tup xs)) (hx : xs[i]? = some x) (q : Q x L h n k) : Wp (getI sg (.loc l) (.int i) ⟨L, h, n, k⟩) Q E := by
 show Wp (atObj ⟨L, h, n, k⟩ l _) Q E
 refine .atO e ?_
 show Wp (itemR xs _ _) Q E
 unfold itemR
 rw [if_pos (Int.natCast_nonneg i), Int.toNat_natCast, hx]
 exact q
theorem i_dict {l : Nat} {es : List (AV × AV)} {i : Int} {x : AV} (e : h l = some (.dict es)) (hx : dget? es (.int i) = some x) (q : Q x L h n k) : Wp (getI sg (.loc l) (.int i) ⟨L, h, n, k⟩) Q E := by
 show Wp (atObj ⟨L, h, n, k⟩ l _) Q E
 refine .atO e ?_
 dsimp only
 rw [hx]
 exact q
theorem i_dict0 {l : Nat} {es : List (AV × AV)} {i : Int} (e : h l = some (.dict es)) (hx : dget? es (.int i) = none) (q : E 79 true L h n 0) : Wp (getI sg (.loc l) (.int i) ⟨L, h, n, 0⟩) Q E := by
 show Wp (atObj ⟨L, h, n, 0⟩ l _) Q E
 refine .atO e ?_
 dsimp only
 rw [hx]
 exact q
theorem j_list {Q : Pst Unit} {l : Nat} {xs : List AV} {i : Int} {x : AV} (e : h l = some (.list xs)) (h0 : 0 ≤ i ∧ i.toNat < xs.length) (q : Q () L (upd h l (.list (xs.set i.toNat x))) n k) : Wp (setI (.loc l) (.int i) x ⟨L, h, n, k⟩) Q E := by
 show Wp (atObj ⟨L, h, n, k⟩ l _) Q E
 exact .atO e (.ifp (r := R.ok _ _) h0 q)
theorem j_dict {Q : Pst Unit} {l : Nat} {es : List (AV × AV)} {i : Int} {x : AV} (e : h l = some (.dict es)) (h0 : es.length ≤ 1000) (q : Q () L (upd h l (.dict (dput es (.int i) x))) n k) : Wp (setI (.loc l) (.int i) x ⟨L, h, n, k⟩) Q E := by
 show Wp (atObj ⟨L, h, n, k⟩ l _) Q E
 exact .atO e (.ifp (r := R.ok _ _) h0 q)
theorem k_in {Q : Pst Bool} {l : Nat} {es : List (AV × AV)} {i : Int} (e : h l = some (.dict es)) (q : Q (dget? es (.int i)).isSome L h n k) : Wp (cmpv sg C .isin (.int i) (.loc l) ⟨L, h, n, k⟩) Q E := by
 show Wp (atObj ⟨L, h, n, k⟩ l _) Q E
 exact .atO e q
theorem f2 (m : Nat) {q : Nat} {y : AV} {r : List AV} (e : h q = some (.list (y :: r))) : callF sg (m + 1) 2 [.loc q] ⟨L, h, n, k⟩ = .ok y ⟨L, upd h q (.list r), n, k⟩ := by
 refine Wp.fin (c_in rfl ?_)
 show Wp (execs sg _ b2 ⟨[(3, .loc q)], h, n, k⟩) _ _
 delta b2
 repeat walk_at "e"
 refine ⟨_, m_lpop e, ?_⟩
 repeat walk_at "e"
 refine c_lpop e ?_
 repeat walk_at "e"
 exact ⟨rfl, rfl⟩
theorem f2_0 (m : Nat) {q : Nat} (e : h q = some (.list [])) (z : E 52 true L h n 0) : Wp (callF sg (m + 1) 2 [.loc q] ⟨L, h, n, 0⟩) Q E := by
 refine c_in rfl ?_
 show Wp (execs sg _ b2 ⟨[(3, .loc q)], h, n, 0⟩) _ _
 delta b2
 repeat walk_at "e"
 refine ⟨_, m_lpop e, ?_⟩
 repeat walk_at "e"
 exact c_lpop0 e z
noncomputable def ahead (p q : Int × Int) : Bool := if p.1 = q.1 then decide (p.2 < q.2) else decide (p.1 < q.1)
inductive Keyed (h : Hp) (l : Nat) (i : Int) : Prop
 | intro (as : Lo) (a : h l = some (.inst 19 as)) (b : get? as 21 = some (.int i))
inductive Ent (h : Hp) (e : Nat) (p : Int × Int) : Prop
 | intro (l : Nat) (a : h e = some (.tup [.int p.1, .loc l])) (b : Keyed h l p.2)
theorem c_0 (m : Nat) {a b : Nat} {p q : Int × Int} (ha : Ent h a p) (hb : Ent h b q) : callF sg (m + 2) 0 [.loc a, .loc b] ⟨L, h, n, k⟩ = .ok (.bool (ahead p q)) ⟨L, h, n, k⟩ := by
 obtain ⟨l, h1, as, h2, h3⟩ := ha
 obtain ⟨j, g1, bs, g2, g3⟩ := hb
 refine Wp.fin (c_in rfl ?_)
 show Wp (execs sg _ b0 ⟨[(0, .loc a), (1, .loc b)], h, n, k⟩) _ _
 delta b0
 unfold ahead
 repeat walk_at "e"
 refine i_tup (i := 0) h1 rfl ?_
 repeat walk_at "e"
 refine i_tup (i := 0) g1 rfl ?_
 repeat walk_at "e"
 refine it_s (fun w => ?_) fun w => ?_
 ·rw [Bool.not_eq_true', decide_eq_false_iff_not] at w
  repeat walk_at "e"
  refine i_tup (i := 0) h1 rfl ?_
  repeat walk_at "e"
  refine i_tup (i := 0) g1 rfl ?_
  repeat walk_at "e"
  rw [if_neg w]
  exact ⟨rfl, rfl⟩
 ·rw [Bool.not_eq_false', decide_eq_true_iff] at w
  repeat walk_at "e"
  refine i_tup (i := 1) h1 rfl ?_
  repeat walk_at "e"
  refine i_tup (i := 1) g1 rfl ?_
  show Wp (cmpI sg (callF sg (m + 1)) 57 l j _) _ _
  exact .cmpI h2 g2 rfl (c_fn rfl rfl (.eq (f13 m h2 g2 h3 g3) ⟨_, rfl, by
   rw [if_pos w]
   exact ⟨rfl, rfl⟩⟩))
theorem k_eqS (m : Nat) {Q : Pst Bool} {l j : Nat} {i i' : Int} (a : Keyed h l i) (b : Keyed h j i') (q : Q (decide (i = i')) L h n k) : Wp (eqv sg (callF sg (m + 1)) (.loc l) (.loc j) ⟨L, h, n, k⟩) Q E := by
 obtain ⟨as, h2, h3⟩ := a
 obtain ⟨bs, g2, g3⟩ := b
 show Wp (cmpI sg (callF sg (m + 1)) 55 l j _) _ _
 exact .cmpI h2 g2 rfl (c_fn rfl rfl (.eq (f11 m h2 g2 h3 g3) ⟨_, rfl, q⟩))
end
end
section
open PySem PySem.W PyProof.Rows
inductive All2 {α β : Type} (P : α → β → Prop) : List α → List β → Prop
 | nil : All2 P [] []
 | cons {a b as bs} : P a b → All2 P as bs → All2 P (a :: as) (b :: bs)
section
variable {α β : Type} {P : α → β → Prop}
theorem All2.app {as cs : List α} {bs ds : List β} (x : All2 P as bs) (y : All2 P cs ds) : All2 P (as ++ cs) (bs ++ ds) := by
 induction x with
 | nil => exact y
 | cons h _ ih => exact .cons h ih
theorem All2.rev {as : List α} {bs : List β} (x : All2 P as bs) : All2 P as.reverse bs.reverse := by
 induction x with
 | nil => exact .nil
 | cons h _ ih => rw [List.reverse_cons, List.reverse_cons]; exact ih.app (.cons h .nil)
theorem All2.mono {P' : α → β → Prop} {as : List α} {bs : List β} (x : All2 P as bs) (k : ∀ a b, b ∈ bs → P a b → P' a b) : All2 P' as bs := by
 induction x with
 | nil => exact .nil
 | cons h _ ih => exact .cons (k _ _ (.head _) h) (ih fun a b m => k a b (.tail _ m))
theorem All2.len {as : List α} {bs : List β} (x : All2 P as bs) : as.length = bs.length := by
 induction x with
 | nil => rfl
 | cons _ _ ih => simp [ih]
end
theorem ents_iff {A : Ad} {t : Nat} {h : Hp} {es : List Nat} {q : List (Int × Int)} : Ents A t h es q ↔ All2 (fun e p => h e = some (.tup [.int p.1, .loc (A t p.2)])) es q := by
 induction es generalizing q with
 | nil =>
  cases q with
  | nil => exact ⟨fun _ => .nil, fun _ => trivial⟩
  | cons p q => exact ⟨fun x => x.elim, fun x => nomatch x⟩
 | cons e es ih =>
  cases q with
  | nil => exact ⟨fun x => x.elim, fun x => nomatch x⟩
  | cons p q => exact ⟨fun x => .cons x.1 (ih.mp x.2), fun x => by cases x with | cons a b => exact ⟨a, ih.mpr b⟩⟩
noncomputable def pushR (p : Int × Int) : List (Int × Int) → List (Int × Int)
 | [] => [p]
 | y :: r => if ahead p y then y :: pushR p r else p :: y :: r
noncomputable def qpush (q : List (Int × Int)) (p : Int × Int) : List (Int × Int) := (pushR p q.reverse).reverse
theorem upd_upd (h : Hp) (l : Nat) (o o' : AO) : upd (upd h l o) l o' = upd h l o' := by
 funext x; unfold upd; split <;> rfl
theorem Ent.upd {h : Hp} {e q : Nat} {p : Int × Int} {xs ys : List AV} (hq : h q = some (.list xs)) (x : Ent h e p) : Ent (upd h q (.list ys)) e p := by
 obtain ⟨l, h1, as, h2, h3⟩ := x
 exact ⟨l, by rw [upd_ne _ _ fun w => by rw [w, hq] at h1; cases h1]; exact h1, as, by rw [upd_ne _ _ fun w => by rw [w, hq] at h2; cases h2]; exact h2, h3⟩
section
variable {L : List (Nat × AV)} {h : Hp} {n k : Nat} {e q : Nat} {p : Int × Int} {P : Nat → Int × Int → Prop}
abbrev l1 (q e : Nat) (j : Nat) : List (Nat × AV) := [(3, .loc q), (4, .loc e), (7, .int j)]
theorem set_mid {α : Type} (a : List α) (x y : α) (b : List α) : (a ++ x :: b).set a.length y = a ++ y :: b := by
 rw [List.set_append_right _ _ (Nat.le_refl _), Nat.sub_self]; rfl
theorem get_mid {α : Type} (a : List α) (x : α) (b : List α) : (a ++ x :: b)[a.length]? = some x := by
 rw [List.getElem?_append_right (Nat.le_refl _), Nat.sub_self]; rfl
end
noncomputable def Ss.at : Ss → Nat → S
 | .cons a _, 0 => a
 | .cons _ r, n + 1 => r.at n
 | .nil, _ => .pass ⟨0, 0, 0, 0⟩
noncomputable def S.tst : S → E
 | .whl t _ _ => t
 | .ife t _ _ _ => t
 | _ => .cst .none 0 ⟨0, 0, 0, 0⟩
noncomputable def S.bdy : S → Ss
 | .whl _ b _ => b
 | .for _ _ b _ => b
 | .ife _ a _ _ => a
 | .try b _ _ => b
 | .fin b _ _ => b
 | _ => .nil
section
variable {L : List (Nat × AV)} {h : Hp} {n k : Nat} {e q : Nat} {p : Int × Int} {P : Nat → Int × Int → Prop}
theorem while_f {test : St → R Bool} {body : St → R Fl} {f : Nat} {s s' : St} (h : test s = .ok false s') : whileN test body (f + 1) s = .ok .next s' := by
 show (test s).bnd _ = _
 rw [h]; rfl
theorem while_t {test : St → R Bool} {body : St → R Fl} {f : Nat} {s s' s'' : St} {x : Fl} (h : test s = .ok true s') (hb : body s' = .ok x s'') (hx : x = .next ∨ x = .cont) : whileN test body (f + 1) s = whileN test body f s'' := by
 show (test s).bnd _ = _
 rw [h]
 show (body s').bnd _ = _
 rw [hb]
 rcases hx with rfl | rfl <;> rfl
theorem w1 (m : Nat) {xs : List AV} (hq : h q = some (.list xs)) (he : P e p) (hP : ∀ e p, P e p → Ent h e p) : ∀ {re : List Nat} {rq : List (Int × Int)}, All2 P re rq → ∀ (x : AV) (post : List AV) (fuel : Nat), re.length < fuel →
  ∃ (re' : List Nat) (x' : AV) (mid : List Nat), whileN (fun s => evalT sg (callF sg (m + 2)) (b1.at 2).tst s) (fun s => execs sg (callF sg (m + 2)) (b1.at 2).bdy s) fuel ⟨l1 q e re.length, upd h q (.list (re.reverse.map .loc ++ x :: post)), n, k⟩ =
   .ok .next ⟨l1 q e re'.length, upd h q (.list (re'.reverse.map .loc ++ x' :: (mid.map .loc ++ post))), n, k⟩ ∧ All2 P (re'.reverse ++ e :: mid) (pushR p rq).reverse := by
 intro re rq hr
 induction hr with
 | nil =>
  intro x post fuel hf
  refine ⟨[], x, [], ?_, .cons he .nil⟩
  obtain ⟨f, rfl⟩ : ∃ f, fuel = f + 1 := ⟨fuel - 1, by omega⟩
  have : evalT sg (callF sg (m + 2)) (b1.at 2).tst ⟨l1 q e 0, upd h q (.list ([] ++ x :: post)), n, k⟩ = .ok false ⟨l1 q e 0, upd h q (.list ([] ++ x :: post)), n, k⟩ := rfl
  show (evalT sg (callF sg (m + 2)) (b1.at 2).tst ⟨l1 q e 0, upd h q (.list ([] ++ x :: post)), n, k⟩).bnd _ = _
  rw [this]
  rfl
 | @cons y w r rq hy hr ih =>
  intro x post fuel hf
  obtain ⟨f, rfl⟩ : ∃ f, fuel = f + 1 := ⟨fuel - 1, by simp at hf; omega⟩
  have lst : (y :: r).reverse.map AV.loc ++ x :: post = r.reverse.map .loc ++ .loc y :: x :: post := by simp
  have len : (r.reverse.map AV.loc).length = r.length := by simp
  have E1 : Ent (upd h q (.list (r.reverse.map .loc ++ .loc y :: x :: post))) e p := (hP _ _ he).upd hq
  have E2 : Ent (upd h q (.list (r.reverse.map .loc ++ .loc y :: x :: post))) y w := (hP _ _ hy).upd hq
  have test : evalT sg (callF sg (m + 2)) (b1.at 2).tst ⟨l1 q e (r.length + 1), upd h q (.list (r.reverse.map .loc ++ .loc y :: x :: post)), n, k⟩ = .ok (ahead p w) ⟨l1 q e (r.length + 1), upd h q (.list (r.reverse.map .loc ++ .loc y :: x :: post)), n, k⟩ := by
   ·refine Wp.fin (e_test ?_)
    delta b1
    dsimp only [Ss.at, S.tst]
    repeat walk_at "e"
    refine it_t (decide_eq_true (by omega)) ?_
    repeat walk_at "e"
    have i1 : ((((r.length + 1 : Nat) : Int)) - 1).toNat = r.length := by omega
    refine' i_list ?a1 ?a2 ?a3 ?a4
    case a1 => exact upd_same ..
    case a2 => omega
    case a3 => rw [i1, ← len]; exact get_mid _ _ _
    repeat walk_at "e"
    refine c_fn rfl rfl (.eq (c_0 m E1 E2) ?_)
    repeat walk_at "e"
    exact ⟨rfl, rfl⟩
  rw [lst]
  by_cases ha : ahead p w = true
  ·have body : execs sg (callF sg (m + 2)) (b1.at 2).bdy ⟨l1 q e (r.length + 1), upd h q (.list (r.reverse.map .loc ++ .loc y :: x :: post)), n, k⟩ = .ok .next ⟨l1 q e r.length, upd h q (.list (r.reverse.map .loc ++ .loc y :: .loc y :: post)), n, k⟩ := by
    ·refine Wp.fin ?_
     delta b1
     dsimp only [Ss.at, S.bdy]
     repeat walk_at "e"
     have i1 : ((((r.length + 1 : Nat) : Int)) - 1).toNat = r.length := by omega
     refine' i_list ?b1 ?b2 ?b3 ?b4
     case b1 => exact upd_same ..
     case b2 => omega
     case b3 => rw [i1, ← len]; exact get_mid _ _ _
     repeat walk_at "e"
     refine' j_list ?c1 ?c2 ?c3
     case c1 => exact upd_same ..
     case c2 => exact ⟨by omega, by simp; try omega⟩
     repeat walk_at "e"
     refine ⟨1, rfl, ?_⟩
     repeat walk_at "e"
     refine ⟨rfl, ?_⟩
     have i2 : (((r.length + 1 : Nat) : Int)).toNat = r.length + 1 := by omega
     have i3 : ((r.length + 1 : Nat) : Int) - 1 = (r.length : Int) := by omega
     have s1 : (r.reverse.map AV.loc ++ .loc y :: x :: post).set (r.length + 1) (.loc y) = r.reverse.map .loc ++ .loc y :: .loc y :: post := by
      have := set_mid (r.reverse.map AV.loc ++ [.loc y]) x (.loc y) post
      simpa using this
     show St.mk [(3, .loc q), (4, .loc e), (7, .int (((r.length + 1 : Nat) : Int) - 1))] (upd (upd h q _) q (.list (List.set _ (((r.length + 1 : Nat) : Int)).toNat (.loc y)))) n k = _
     rw [upd_upd, i2, i3, s1]
   obtain ⟨re', x', mid, e1, e2⟩ := ih (.loc y) (.loc y :: post) f (by simp at hf; omega)
   refine ⟨re', x', mid ++ [y], ?_, ?_⟩
   ·rw [ha] at test
    refine (while_t test body (.inl rfl)).trans (e1.trans ?_)
    rw [List.map_append, List.append_assoc]; rfl
   ·unfold pushR
    rw [if_pos ha, List.reverse_cons]
    have := e2.app (.cons hy .nil)
    simpa using this
  ·refine ⟨y :: r, x, [], ?_, ?_⟩
   ·rw [(Bool.not_eq_true _).mp ha] at test
    refine (while_f test).trans ?_
    rw [← lst]; rfl
   ·unfold pushR
    rw [if_neg ha, List.reverse_cons, List.reverse_cons]
    have := (All2.cons hy hr).rev.app (.cons he .nil)
    simpa using this
end
end
section
open PySem PySem.W PyProof.Rows
section
variable {C : Nat → List AV → St → R AV} {E : Est} {k n : Nat} {h : Hp} {L : Lo} {A cl ql : Ad} {G : Hp} {Φ : Fo} {t : Nat} {i : Int} {nd : Nd} {Q : Pst AV}
theorem f1 (m : Nat) {e q : Nat} {p : Int × Int} {P : Nat → Int × Int → Prop} {es : List Nat} {qs : List (Int × Int)} (hq : h q = some (entsO es)) (hes : All2 P es qs) (he : P e p) (hP : ∀ e p, P e p → Ent h e p) (hl : es.length ≤ 1000)
  (hQ : ∀ es', All2 P es' (qpush qs p) → Q .none L (upd h q (entsO es')) n k) : Wp (callF sg (m + 3) 1 [.loc q, .loc e] ⟨L, h, n, k⟩) Q E := by
 refine c_in rfl ?_
 show Wp (execs sg _ b1 ⟨[(3, .loc q), (4, .loc e)], h, n, k⟩) _ _
 obtain ⟨re', x', mid, e1, e2⟩ := w1 (n := n) (k := k) m hq he hP hes.rev (.loc e) [] 100000 (by simp; omega)
 delta b1 at e1 ⊢
 repeat walk_at "e"
 refine ⟨_, m_append hq, ?_⟩
 repeat walk_at "e"
 refine c_append hq (by simp; omega) ?_
 refine ⟨trivial, ?_⟩
 repeat walk_at "e"
 refine' bi_len ?a1 ?a2
 case a1 => exact upd_same ..
 repeat walk_at "e"
 refine x_whl ?_
 have s1 : (⟨l1 q e es.reverse.length, upd h q (.list (es.reverse.reverse.map .loc ++ .loc e :: [])), n, k⟩ : St) = ⟨[(3, .loc q), (4, .loc e), (7, .int (((es.map AV.loc ++ [AV.loc e]).length : Nat) - 1))], upd h q (.list (es.map .loc ++ [.loc e])), n, k⟩ := by
  have : ((es.map AV.loc ++ [AV.loc e]).length : Int) - 1 = (es.length : Int) := by simp
  rw [this, List.reverse_reverse, List.length_reverse]
 rw [s1] at e1
 refine .eq e1 ?_
 repeat walk_at "e"
 refine' j_list ?b1 ?b2 ?b3
 case b1 => exact upd_same ..
 case b2 => exact ⟨by omega, by simp⟩
 repeat walk_at "e"
 have := hQ _ (show All2 P (re'.reverse ++ e :: mid) (qpush qs p) from e2)
 show Q .none L (upd (upd h q _) q _) n k
 rw [upd_upd]
 have s2 : (List.map AV.loc re'.reverse ++ x' :: (List.map AV.loc mid ++ [])).set ((re'.length : Int)).toNat (.loc e) = (re'.reverse ++ e :: mid).map .loc := by
  have := set_mid (re'.reverse.map AV.loc) x' (.loc e) (mid.map .loc)
  simp only [List.length_map, List.length_reverse] at this
  rw [Int.toNat_natCast, List.append_nil, this]
  simp
 rw [s2]
 exact this
theorem f4 (m : Nat) {l : Nat} {as : Lo} {x : Int} (hl : h l = some (.inst 19 as)) (hx : get? as 30 = some (.int x)) : callF sg (m + 1) 4 [.loc l] ⟨L, h, n, k⟩ = .ok (.int x) ⟨L, h, n, k⟩ := by
 refine Wp.fin (c_in rfl ?_)
 show Wp (execs sg _ b4 ⟨[(20, .loc l)], h, n, k⟩) _ _
 delta b4
 repeat walk_at "e"
 refine a_get hl rfl hx rfl ?_
 repeat walk_at "e"
 exact ⟨rfl, rfl⟩
theorem a_weight (m : Nat) {l : Nat} {as : Lo} {x : Int} (hl : h l = some (.inst 19 as)) (hx : get? as 30 = some (.int x)) (q : Q (.int x) L h n k) : Wp (getA sg (callF sg (m + 1)) (.loc l) 22 ⟨L, h, n, k⟩) Q E :=
 a_prop hl rfl (c_fn rfl rfl (.eq (f4 m hl hx) ⟨rfl, q⟩))
theorem bi_int {x : Int} (q : Q (.bool true) L h n k) : Wp (callV sg C (.gl 32) [.int x, .gl 33] [] ⟨L, h, n, k⟩) Q E := q
theorem f5 (m : Nat) {l : Nat} {as : Lo} {x : Int} (hl : h l = some (.inst 19 as)) (hs : as.length ≤ 20) (hk : k ≤ 1) (hQ : 1 ≤ x ∧ x ≤ 256 → Q .none L (upd h l (.inst 19 (put as 30 (.int x)))) n k) (hE : ¬ (1 ≤ x ∧ x ≤ 256) → E 17 (k == 0) L h n k) :
  Wp (callF sg (m + 1) 5 [.loc l, .int x] ⟨L, h, n, k⟩) Q E := by
 refine c_in rfl ?_
 show Wp (execs sg _ b5 ⟨[(20, .loc l), (31, .int x)], h, n, k⟩) _ _
 delta b5
 repeat walk_at "e"
 refine bi_int ?_
 repeat walk_at "e"
 refine it_s (fun w => ?_) fun w => ?_
 ·repeat walk_at "e"
  refine it_s (fun w' => ?_) fun w' => ?_
  ·repeat walk_at "e"
   exact ⟨hk, hE fun q => by simp [q.2] at w'⟩
  ·repeat walk_at "e"
   refine a_set hl rfl hs ?_
   repeat walk_at "e"
   exact hQ ⟨of_decide_eq_true w, by simpa using w'⟩
 ·repeat walk_at "e"
  exact ⟨hk, hE fun q => by simp [q.1] at w⟩
end
end
section
open PySem PySem.W PyProof.Rows
section
variable {C : Nat → List AV → St → R AV} {E : Est} {k n : Nat} {h : Hp} {L : Lo} {A cl ql : Ad} {G : Hp} {Φ : Fo} {t : Nat} {i : Int} {nd : Nd} {Q : Pst AV}
theorem Rep.fresh (R : Rep A cl ql Φ G h n) {l : Nat} (hl : n ≤ l) : h l = none := by
 cases q : h l with
 | none => rfl
 | some o => have := R.lt _ _ q; omega
theorem Rep.gfresh (R : Rep A cl ql Φ G h n) {l : Nat} (hl : n ≤ l) : G l = none := by
 cases q : G l with
 | none => rfl
 | some o => have := R.old _ _ q; rw [R.fresh hl] at this; exact nsE this
theorem Rep.junk (R : Rep A cl ql Φ G h n) (o : AO) : Rep A cl ql Φ G (upd h n o) (n + 1) :=
 (R.new o).sub fun l x e => by
  rw [upd_ne]
  ·exact e
  ·rintro rfl; rw [R.gfresh (Nat.le_refl _)] at e; exact nsE e
theorem new_cls {xs : List AV} {ks : List (Nat × AV)} (w : Wp (callFn sg C 3 (.loc n :: xs) ks ⟨L, upd h n (.inst 19 []), n + 1, k⟩) (fun r L h n' k => r = .none ∧ Q (.loc n) L h n' k) E) : Wp (callV sg C (.gl 19) xs ks ⟨L, h, n, k⟩) Q E := by
 show Wp ((callFn sg C 3 (.loc n :: xs) ks ⟨L, upd h n (.inst 19 []), n + 1, k⟩).bnd fun r s' => if r = .none then R.ok (.loc n) s' else .bad) Q E
 exact .bnd (w.imp fun r _ _ _ _ w => by rw [w.1]; exact w.2)
theorem f3 (m : Nat) {w : Int} (R : Rep A cl ql Φ G h n) (no : NoRef (Φ t) i) (hk : k ≤ 1)
  (hQ : 1 ≤ w ∧ w ≤ 256 → ∀ cl' ql' h' n', n < n' → Rep (updA A t i n) cl' ql' (setT Φ t (setN (Φ t) i (nd0 w))) G h' n' → Q .none L h' n' k)
  (hE : ¬ (1 ≤ w ∧ w ≤ 256) → ∀ h' n', Rep A cl ql Φ G h' n' → E 17 (k == 0) L h' n' k) : Wp (callF sg (m + 2) 3 [.loc n, .int i, .int w] ⟨L, upd h n (.inst 19 []), n + 1, k⟩) Q E := by
 refine c_in rfl ?_
 show Wp (execs sg _ b3 ⟨[(20, .loc n), (21, .int i), (22, .int w)], upd h n (.inst 19 []), n + 1, k⟩) _ _
 delta b3
 repeat walk_at "e"
 refine a_set (upd_same ..) rfl (Nat.le_of_ble_eq_true rfl) ?_
 rw [upd_upd]
 repeat walk_at "e"
 refine a_setp (upd_same ..) rfl ?_
 refine c_fn rfl rfl (f5 m (upd_same ..) (Nat.le_of_ble_eq_true rfl) hk (fun hw => ?_) fun hw => ?_)
 ·rw [upd_upd]
  repeat walk_at "e"
  refine ⟨by decide, ?_⟩
  repeat walk_at "e"
  refine a_set ((upd_ne _ _ (by omega : n ≠ n + 1)).trans (upd_same ..)) rfl (Nat.le_of_ble_eq_true rfl) ?_
  repeat walk_at "e"
  refine a_set (upd_same ..) rfl (Nat.le_of_ble_eq_true rfl) ?_
  rw [upd_upd]
  repeat walk_at "e"
  refine ⟨by decide, ?_⟩
  repeat walk_at "e"
  refine a_set ((upd_ne _ _ (by omega : n ≠ n + 1 + 1)).trans (upd_same ..)) rfl (Nat.le_of_ble_eq_true rfl) ?_
  repeat walk_at "e"
  refine a_set (upd_same ..) rfl (Nat.le_of_ble_eq_true rfl) ?_
  rw [upd_upd]
  repeat walk_at "e"
  refine a_set (upd_same ..) rfl (Nat.le_of_ble_eq_true rfl) ?_
  rw [upd_upd]
  repeat walk_at "e"
  refine a_set (upd_same ..) rfl (Nat.le_of_ble_eq_true rfl) ?_
  rw [upd_upd]
  repeat walk_at "e"
  have R1 := (R.new (.inst 19 [(21, .int i), (30, .int w)])).new (.list [])
  have R2 := R1.put (l := n) ((upd_ne _ _ (by omega)).trans (upd_same ..)) rfl (.inst 19 [(21, .int i), (30, .int w), (24, .loc (n + 1)), (25, .none)])
  have R3 := R2.new (.list [])
  have R4 := R3.put (l := n) ((upd_ne _ _ (by omega)).trans (upd_same ..)) rfl (.inst 19 (ats A t i (nd0 w) (n + 1) (n + 1 + 1)))
  have R5 := R4.adoptNode (c := n + 1) (q := n + 1 + 1) no (upd_same ..) ((upd_ne _ _ (by omega)).trans ((upd_ne _ _ (by omega)).trans ((upd_ne _ _ (by omega)).trans (upd_same ..)))) ((upd_ne _ _ (by omega)).trans (upd_same ..)) (by omega)
  refine hQ hw _ _ _ _ (by omega) (R5.sub fun l o e => ?_)
  have z : l < n := R.lt _ _ (R.old _ _ e)
  unfold drop
  rw [if_neg (by omega), if_neg (by omega), if_neg (by omega), upd_ne _ _ (by omega), upd_ne _ _ (by omega), upd_ne _ _ (by omega), upd_ne _ _ (by omega), upd_ne _ _ (by omega)]
  exact e
 ·exact hE hw _ _ (R.junk _)
theorem c_stream (m : Nat) {w : Int} (R : Rep A cl ql Φ G h n) (no : NoRef (Φ t) i) (hk : k ≤ 1)
  (hQ : 1 ≤ w ∧ w ≤ 256 → ∀ cl' ql' h' n', n < n' → Rep (updA A t i n) cl' ql' (setT Φ t (setN (Φ t) i (nd0 w))) G h' n' → Q (.loc n) L h' n' k)
  (hE : ¬ (1 ≤ w ∧ w ≤ 256) → ∀ h' n', Rep A cl ql Φ G h' n' → E 17 (k == 0) L h' n' k) : Wp (callV sg (callF sg (m + 2)) (.gl 19) [.int i, .int w] [] ⟨L, h, n, k⟩) Q E :=
 new_cls (c_fn rfl rfl (f3 m R no hk (fun a b c d e f g => ⟨rfl, hQ a b c d e f g⟩) hE))
theorem c_streamK (m : Nat) {w : Int} (R : Rep A cl ql Φ G h n) (no : NoRef (Φ t) i) (hk : k ≤ 1)
  (hQ : 1 ≤ w ∧ w ≤ 256 → ∀ cl' ql' h' n', n < n' → Rep (updA A t i n) cl' ql' (setT Φ t (setN (Φ t) i (nd0 w))) G h' n' → Q (.loc n) L h' n' k)
  (hE : ¬ (1 ≤ w ∧ w ≤ 256) → ∀ h' n', Rep A cl ql Φ G h' n' → E 17 (k == 0) L h' n' k) : Wp (callV sg (callF sg (m + 2)) (.gl 19) [] [(21, .int i), (22, .int w)] ⟨L, h, n, k⟩) Q E :=
 new_cls (c_fn rfl rfl (f3 m R no hk (fun a b c d e f g => ⟨rfl, hQ a b c d e f g⟩) hE))
variable {T : Tr}
theorem atT (hn : T i = some nd) : setT Φ t T t i = some nd := by rw [setT_same]; exact hn
theorem setT_put : setT (setT Φ t T) t (setN (setT Φ t T t) i nd) = setT Φ t (setN T i nd) := by rw [setT_setT, setT_same]
theorem Rep.upKids (R : Rep A cl ql (setT Φ t T) G h n) (hn : T i = some nd) (ks : List Int) : Rep A cl ql (setT Φ t (setN T i { nd with kids := ks })) G (upd h (cl t i) (kidsO A t ks)) n := setT_put ▸ R.updKids (atT hn) ks
theorem Rep.upQueue (R : Rep A cl ql (setT Φ t T) G h n) (hn : T i = some nd) {es : List Nat} {q : List (Int × Int)} (hes : Ents A t h es q) : Rep A cl ql (setT Φ t (setN T i { nd with queue := q })) G (upd h (ql t i) (entsO es)) n := setT_put ▸ R.updQueue (atT hn) hes
theorem Rep.inKids (R : Rep A cl ql (setT Φ t T) G h n) (hn : T i = some nd) {ks : List Int} {l : Nat} (hl : G l = some (kidsO A t ks)) :
  Rep A (updA cl t i l) ql (setT Φ t (setN T i { nd with kids := ks })) (upd (drop G l) (cl t i) (kidsO A t nd.kids)) (upd h (A t i) (.inst 19 (ats A t i nd l (ql t i)))) n := setT_put ▸ R.adoptKids (atT hn) hl
theorem Rep.inQueue (R : Rep A cl ql (setT Φ t T) G h n) (hn : T i = some nd) {es : List Nat} {qs : List (Int × Int)} {l : Nat} (hl : G l = some (entsO es)) (hes : Ents A t h es qs) :
  Rep A cl (updA ql t i l) (setT Φ t (setN T i { nd with queue := qs })) (drop G l) (upd h (A t i) (.inst 19 (ats A t i nd (cl t i) l))) n := setT_put ▸ R.adoptQueue (atT hn) hl hes
theorem Rep.get (R : Rep A cl ql (setT Φ t T) G h n) (hn : T i = some nd) {a : Nat} {x : AV} (hm : sg.me 19 a = .data) (hx : get? (ats A t i nd (cl t i) (ql t i)) a = some x) (hp : x.plain = true) (q : Q x L h n k) : Wp (getA sg C (.loc (A t i)) a ⟨L, h, n, k⟩) Q E :=
 a_get (R.node _ _ _ (atT hn)) hm hx hp q
theorem parV_plain (A : Ad) (t : Nat) (p : Option Int) : (parV A t p).plain = true := by cases p <;> rfl
theorem Rep.getId (R : Rep A cl ql (setT Φ t T) G h n) (hn : T i = some nd) (q : Q (.int i) L h n k) : Wp (getA sg C (.loc (A t i)) 21 ⟨L, h, n, k⟩) Q E := R.get hn rfl rfl rfl q
theorem Rep.getKids (R : Rep A cl ql (setT Φ t T) G h n) (hn : T i = some nd) (q : Q (.loc (cl t i)) L h n k) : Wp (getA sg C (.loc (A t i)) 24 ⟨L, h, n, k⟩) Q E := R.get hn rfl rfl rfl q
theorem Rep.getPar (R : Rep A cl ql (setT Φ t T) G h n) (hn : T i = some nd) {p : Int} (hp : nd.par = some p) (q : Q (.loc (A t p)) L h n k) : Wp (getA sg C (.loc (A t i)) 25 ⟨L, h, n, k⟩) Q E := R.get hn rfl (show some (parV A t nd.par) = _ by rw [hp]; rfl) rfl q
theorem Rep.getQ (R : Rep A cl ql (setT Φ t T) G h n) (hn : T i = some nd) (q : Q (.loc (ql t i)) L h n k) : Wp (getA sg C (.loc (A t i)) 26 ⟨L, h, n, k⟩) Q E := R.get hn rfl rfl rfl q
theorem Rep.getAct (R : Rep A cl ql (setT Φ t T) G h n) (hn : T i = some nd) (q : Q (.bool nd.act) L h n k) : Wp (getA sg C (.loc (A t i)) 27 ⟨L, h, n, k⟩) Q E := R.get hn rfl rfl rfl q
theorem Rep.getLw (R : Rep A cl ql (setT Φ t T) G h n) (hn : T i = some nd) (q : Q (.int nd.lw) L h n k) : Wp (getA sg C (.loc (A t i)) 28 ⟨L, h, n, k⟩) Q E := R.get hn rfl rfl rfl q
theorem Rep.getDf (R : Rep A cl ql (setT Φ t T) G h n) (hn : T i = some nd) (q : Q (.int nd.df) L h n k) : Wp (getA sg C (.loc (A t i)) 29 ⟨L, h, n, k⟩) Q E := R.get hn rfl rfl rfl q
theorem Rep.getW (m : Nat) (R : Rep A cl ql (setT Φ t T) G h n) (hn : T i = some nd) (q : Q (.int nd.w) L h n k) : Wp (getA sg (callF sg (m + 1)) (.loc (A t i)) 22 ⟨L, h, n, k⟩) Q E := a_weight m (R.node _ _ _ (atT hn)) rfl q
theorem Rep.setPar {Q : Pst Unit} (R : Rep A cl ql (setT Φ t T) G h n) (hn : T i = some nd) (p : Int) (q : ∀ h', Rep A cl ql (setT Φ t (setN T i { nd with par := some p })) G h' n → Q () L h' n k) : Wp (setA sg C (.loc (A t i)) 25 (.loc (A t p)) ⟨L, h, n, k⟩) Q E :=
 a_set (R.node _ _ _ (atT hn)) rfl (Nat.le_of_ble_eq_true rfl) (q _ (setT_put ▸ R.updNode (nd' := { nd with par := some p }) (atT hn) rfl rfl))
theorem Rep.setAct {Q : Pst Unit} (R : Rep A cl ql (setT Φ t T) G h n) (hn : T i = some nd) (b : Bool) (q : ∀ h', Rep A cl ql (setT Φ t (setN T i { nd with act := b })) G h' n → Q () L h' n k) : Wp (setA sg C (.loc (A t i)) 27 (.bool b) ⟨L, h, n, k⟩) Q E :=
 a_set (R.node _ _ _ (atT hn)) rfl (Nat.le_of_ble_eq_true rfl) (q _ (setT_put ▸ R.updNode (nd' := { nd with act := b }) (atT hn) rfl rfl))
theorem Rep.setLw {Q : Pst Unit} (R : Rep A cl ql (setT Φ t T) G h n) (hn : T i = some nd) (x : Int) (q : ∀ h', Rep A cl ql (setT Φ t (setN T i { nd with lw := x })) G h' n → Q () L h' n k) : Wp (setA sg C (.loc (A t i)) 28 (.int x) ⟨L, h, n, k⟩) Q E :=
 a_set (R.node _ _ _ (atT hn)) rfl (Nat.le_of_ble_eq_true rfl) (q _ (setT_put ▸ R.updNode (nd' := { nd with lw := x }) (atT hn) rfl rfl))
theorem Rep.setDf {Q : Pst Unit} (R : Rep A cl ql (setT Φ t T) G h n) (hn : T i = some nd) (x : Int) (q : ∀ h', Rep A cl ql (setT Φ t (setN T i { nd with df := x })) G h' n → Q () L h' n k) : Wp (setA sg C (.loc (A t i)) 29 (.int x) ⟨L, h, n, k⟩) Q E :=
 a_set (R.node _ _ _ (atT hn)) rfl (Nat.le_of_ble_eq_true rfl) (q _ (setT_put ▸ R.updNode (nd' := { nd with df := x }) (atT hn) rfl rfl))
theorem Rep.setW {Q : Pst Unit} (m : Nat) (R : Rep A cl ql (setT Φ t T) G h n) (hn : T i = some nd) (x : Int) (hk : k ≤ 1) (q : 1 ≤ x ∧ x ≤ 256 → ∀ h', Rep A cl ql (setT Φ t (setN T i { nd with w := x })) G h' n → Q () L h' n k) (e : ¬ (1 ≤ x ∧ x ≤ 256) → E 17 (k == 0) L h n k) :
  Wp (setA sg (callF sg (m + 1)) (.loc (A t i)) 22 (.int x) ⟨L, h, n, k⟩) Q E :=
 a_setp (R.node _ _ _ (atT hn)) rfl (c_fn rfl rfl (f5 m (R.node _ _ _ (atT hn)) (Nat.le_of_ble_eq_true rfl) hk (fun hw => q hw _ (setT_put ▸ R.updNode (nd' := { nd with w := x }) (atT hn) rfl rfl)) e))
theorem Rep.keyed (R : Rep A cl ql (setT Φ t T) G h n) (hn : T i ≠ none) : Keyed h (A t i) i := let ⟨_, e⟩ := Option.ne_none_iff_exists'.mp hn; ⟨_, R.node _ _ _ (atT e), rfl⟩
theorem Rep.meth (R : Rep A cl ql (setT Φ t T) G h n) (hn : T i = some nd) {m f : Nat} (hm : sg.me 19 m = .fn f) (hx : get? (ats A t i nd (cl t i) (ql t i)) m = none) : methodOf sg (.loc (A t i)) m ⟨L, h, n, k⟩ = some (.fn f) := m_inst (R.node _ _ _ (atT hn)) hm hx
theorem Rep.push (m : Nat) (R : Rep A cl ql (setT Φ t T) G h n) {q e : Nat} {es : List Nat} {qs : List (Int × Int)} {lv : Int} (hq : h q = some (entsO es)) (hes : Ents A t h es qs) (hi : ∀ p ∈ qs, T p.2 ≠ none) (he : h e = some (.tup [.int lv, .loc (A t i)])) (hn : T i ≠ none) (hl : qs.length ≤ 1000)
  (hQ : ∀ es', Ents A t h es' (qpush qs (lv, i)) → Q .none L (upd h q (entsO es')) n k) : Wp (callF sg (m + 3) 1 [.loc q, .loc e] ⟨L, h, n, k⟩) Q E := by
 have x := ents_iff.mp hes
 have x' : All2 (fun e p => h e = some (.tup [.int p.1, .loc (A t p.2)]) ∧ T p.2 ≠ none) es qs := x.mono fun _ p hp y => ⟨y, hi p hp⟩
 refine f1 m (p := (lv, i)) hq x' ⟨he, hn⟩ (fun e p hp => ⟨_, hp.1, R.keyed hp.2⟩) (by rw [x.len]; exact hl) fun es' y => hQ _ (ents_iff.mpr (y.mono fun _ _ _ z => z.1))
end
end
section
open PySem PySem.W PyProof.Rows
theorem setN_setN (T : Tr) (i : Int) (x y : Nd) : setN (setN T i x) i y = setN T i y := by funext j; unfold setN; split <;> rfl
noncomputable def addChild (T : Tr) (p c : Int) : Tr := match T p, T c with
 | some np, some nc => setN (setN T c { nc with par := some p }) p { np with kids := np.kids ++ [c], queue := qpush np.queue (np.lw, c) }
 | _, _ => T
theorem addChild_eq {T : Tr} {p c : Int} {np nc : Nd} (hp : T p = some np) (hc : T c = some nc) : addChild T p c = setN (setN T c { nc with par := some p }) p { np with kids := np.kids ++ [c], queue := qpush np.queue (np.lw, c) } := by
 unfold addChild; rw [hp, hc]
section
variable {C : Nat → List AV → St → R AV} {E : Est} {k n : Nat} {h : Hp} {L : Lo} {A cl ql : Ad} {G : Hp} {Φ : Fo} {t : Nat} {i : Int} {nd : Nd} {T : Tr} {Q : Pst AV}
theorem setN_dom {x : Nd} {j : Int} (hj : T j ≠ none) : setN T i x j ≠ none := by
 unfold setN; split
 ·nofun
 ·exact hj
theorem get_put (L : Lo) (i : Nat) (v : AV) : get? (put L i v) i = some v := by
 induction L with
 | nil => simp [put, get?]
 | cons a r ih => obtain ⟨x, y⟩ := a; unfold put; split <;> simp_all [get?]
theorem get_put_ne (L : Lo) {i j : Nat} (v : AV) (e : j ≠ i) : get? (put L i v) j = get? L j := by
 induction L with
 | nil => simp [put, get?, e]
 | cons a r ih =>
  obtain ⟨x, y⟩ := a; unfold put
  split
  ·rename_i q; subst q; simp [get?, e]
  ·by_cases q : j = x <;> simp [get?, q, ih]
theorem f6 (m : Nat) {p c : Int} {np nc : Nd} (R : Rep A cl ql (setT Φ t T) G h n) (hp : T p = some np) (hc : T c = some nc) (hpc : p ≠ c) (hi : ∀ x ∈ np.queue, T x.2 ≠ none) (hl : np.queue.length ≤ 1000) (hlk : np.kids.length ≤ 1000)
  (hQ : ∀ h' n', Rep A cl ql (setT Φ t (addChild T p c)) G h' n' → Q .none L h' n' k) : Wp (callF sg (m + 4) 6 [.loc (A t p), .loc (A t c)] ⟨L, h, n, k⟩) Q E := by
 refine c_in rfl ?_
 show Wp (execs sg _ b6 ⟨[(20, .loc (A t p)), (36, .loc (A t c))], h, n, k⟩) _ _
 delta b6
 repeat walk_at "e"
 refine R.setPar hc p fun h1 R1 => ?_
 have hp1 : setN T c { nc with par := some p } p = some np := (setN_ne _ _ hpc).trans hp
 repeat walk_at "e"
 refine R1.getKids hp1 ?_
 refine ⟨_, m_append (R1.kids _ _ _ (atT hp1)), ?_⟩
 repeat walk_at "e"
 refine c_append (R1.kids _ _ _ (atT hp1)) (by simpa using hlk) ⟨trivial, ?_⟩
 have R2 := R1.upKids hp1 (np.kids ++ [c])
 rw [show kidsO A t (np.kids ++ [c]) = .list (np.kids.map (fun j => .loc (A t j)) ++ [.loc (A t c)]) by simp] at R2
 repeat walk_at "e"
 refine R2.getQ (setN_same ..) ?_
 repeat walk_at "e"
 refine R2.getLw (setN_same ..) ?_
 repeat walk_at "e"
 refine ⟨Nat.le_of_ble_eq_true rfl, ?_⟩
 repeat walk_at "e"
 have R3 := R2.junk (.tup [.int np.lw, .loc (A t c)])
 refine xo1_2 (R3.queue _ _ _ (atT (setN_same ..))) fun es e1 e2 => ?_
 refine c_fn rfl rfl (R3.push m e1 e2 (fun x hx => setN_dom (setN_dom (hi x hx))) (upd_same ..) (setN_dom (by rw [setN_same]; nofun)) hl fun es' e3 => ⟨trivial, ?_⟩)
 have R4 := R3.upQueue (setN_same ..) e3
 repeat walk_at "e"
 refine hQ _ _ ?_
 rw [addChild_eq hp hc]
 rw [setN_setN] at R4
 exact R4
theorem forN_wp {Q : Pst Fl} {asg : AV → St → R Unit} {body : St → R Fl} {it : It} {xs : List AV} (I : Nat → Lo → Hp → Nat → Nat → Prop)
  (hI : ∀ j L h n k, I j L h n k → itemAt it j ⟨L, h, n, k⟩ = some xs[j]? ∧ k ≤ 1)
  (step : ∀ j x L h n k, xs[j]? = some x → I j L h n k → Wp (asg x ⟨L, h, n, k⟩) (fun _ L h n k => Wp (body ⟨L, h, n, k⟩) (fun f L h n k => match f with | .next => I (j + 1) L h n k | .cont => I (j + 1) L h n k | .brk => Q .next L h n k | .ret v => Q (.ret v) L h n k) E) E)
  (done : ∀ L h n k, I xs.length L h n k → Q .next L h n k) : ∀ (fuel j : Nat), xs.length < fuel + j → j ≤ xs.length → ∀ {L h n k}, I j L h n k → Wp (forN it asg body fuel j ⟨L, h, n, k⟩) Q E := by
 intro fuel
 induction fuel with
 | zero => intro j h1 h2; omega
 | succ f ih =>
  intro j h1 h2 L h n k hj
  refine xo0_2 (hI _ _ _ _ _ hj) fun e1 e2 => ?_
  unfold forN
  rw [e1]
  cases q : xs[j]? with
  | none =>
   have : xs.length ≤ j := List.getElem?_eq_none_iff.mp q
   obtain rfl : j = xs.length := by omega
   show Wp (if k ≤ 1 then _ else _) Q E
   rw [if_pos e2]
   exact done _ _ _ _ hj
  | some x =>
   have lt : j < xs.length := (List.getElem?_eq_some_iff.mp q).1
   refine .bnd ((step _ _ _ _ _ _ q hj).imp fun _ L h n k w => .bnd (w.imp fun fl L h n k w => ?_))
   cases fl with
   | next => exact ih _ (by omega) lt w
   | cont => exact ih _ (by omega) lt w
   | brk => exact w
   | ret v => exact w
theorem t_nm {Q : Pst Unit} {g : Sig} {i : Nat} {q : Pos} {v : AV} (w : Q () (put L i v) h n k) : Wp (asgT g C (.nm i q) v ⟨L, h, n, k⟩) Q E := w
theorem t_tup {Q : Pst Unit} {g : Sig} {i j m : Nat} {q q' q'' : Pos} {l : Nat} {x y : AV} (e : h l = some (.tup [x, y])) (hk : k ≤ 1) (w : Q () (put (put L i x) j y) h n k) : Wp (asgT g C (.tup i q j q' m q'') (.loc l) ⟨L, h, n, k⟩) Q E := by
 show Wp (atObj ⟨L, h, n, k⟩ l _) Q E
 exact .atO e (.ifp (r := R.ok _ _) hk w)
theorem x_for {Q : Pst Fl} {g : Sig} {tg : Mine.T} {e : Mine.E} {b : Ss} {p : Pos} {s : St} (w : Wp (evalE g C e s) (fun v L h n k => ∃ it, iterOf v ⟨L, h, n, k⟩ = some it ∧ Wp (forN it (fun x s => asgT g C tg x s) (fun s => execs g C b s) g.lf 0 ⟨L, h, n, k⟩) Q E) E) : Wp (exec g C (.for tg e b p) s) Q E :=
 .bnd (w.imp fun v L h n k w => by
  refine xo1_2 w fun it h1 h2 => ?_; clear w
  show Wp (match iterOf v ⟨L, h, n, k⟩ with | some it => _ | none => _) Q E
  rw [h1]
  exact h2)
theorem it_list {l : Nat} {xs : List AV} (e : h l = some (.list xs)) : iterOf (.loc l) ⟨L, h, n, k⟩ = some (.list l) := by
 show (match h l with | some (.list _) => some (It.list l) | some (.tup _) => some (.tup l) | some (.rng n) => some (.rng n) | _ => none) = _
 rw [e]
theorem at_list {l : Nat} {xs : List AV} {j : Nat} (e : h l = some (.list xs)) : itemAt (.list l) j ⟨L, h, n, k⟩ = some xs[j]? := by
 show (match h l with | some (.list xs) => some xs[j]? | _ => none) = _
 rw [e]
noncomputable def addExcl (T : Tr) (p c : Int) : Tr := match T p with
 | some np => np.kids.foldl (fun T k => addChild T c k) (addChild (setN T p { np with kids := [], queue := [], lw := 0 }) p c)
 | none => T
noncomputable def Hang (T : Tr) (c : Int) : List Int → Prop
 | [] => True
 | x :: r => c ≠ x ∧ (∃ nc, T c = some nc ∧ (∀ y ∈ nc.queue, T y.2 ≠ none) ∧ nc.queue.length ≤ 1000 ∧ nc.kids.length ≤ 1000) ∧ T x ≠ none ∧ Hang (addChild T c x) c r
theorem Hang.get {T : Tr} {c : Int} {xs : List Int} (x : Hang T c xs) : ∀ {j : Nat} {y : Int}, xs[j]? = some y → ∃ nc, ((xs.take j).foldl (fun T k => addChild T c k) T) c = some nc ∧ (∀ z ∈ nc.queue, ((xs.take j).foldl (fun T k => addChild T c k) T) z.2 ≠ none) ∧ nc.queue.length ≤ 1000 ∧ nc.kids.length ≤ 1000 ∧ c ≠ y ∧ ((xs.take j).foldl (fun T k => addChild T c k) T) y ≠ none := by
 induction xs generalizing T with
 | nil => intro j y e; simp at e
 | cons a r ih =>
  intro j y e
  obtain ⟨h1, ⟨nc, h2, h3, h4, h5⟩, h6, h7⟩ := x
  cases j with
  | zero => simp at e; subst e; exact ⟨nc, h2, h3, h4, h5, h1, h6⟩
  | succ j => simpa using ih h7 (by simpa using e)
theorem take_succ' {α : Type} {xs : List α} {j : Nat} {x : α} (e : xs[j]? = some x) : xs.take (j + 1) = xs.take j ++ [x] := by
 rw [List.take_add_one, e]; rfl
theorem f7 (m : Nat) {p c : Int} {np nc : Nd} (R : Rep A cl ql (setT Φ t T) G h n) (hk : k ≤ 1) (hp : T p = some np) (hc : T c = some nc) (hpc : p ≠ c) (hlen : np.kids.length ≤ 1000)
  (hg : Hang (addChild (setN T p { np with kids := [], queue := [], lw := 0 }) p c) c np.kids)
  (hQ : ∀ cl' ql' h' n', Rep A cl' ql' (setT Φ t (addExcl T p c)) G h' n' → Q .none L h' n' k) : Wp (callF sg (m + 5) 7 [.loc (A t p), .loc (A t c)] ⟨L, h, n, k⟩) Q E := by
 refine c_in rfl ?_
 show Wp (execs sg _ b7 ⟨[(20, .loc (A t p)), (36, .loc (A t c))], h, n, k⟩) _ _
 delta b7
 repeat walk_at "e"
 refine R.getKids hp ?_
 repeat walk_at "e"
 refine ⟨Nat.le_of_ble_eq_true rfl, ?_⟩
 have R1 := R.new (.list [])
 have n1 : cl t p < n := R.lt _ _ (R.kids _ _ _ (atT hp))
 repeat walk_at "e"
 refine a_set (R1.node _ _ _ (atT hp)) rfl (Nat.le_of_ble_eq_true rfl) ?_
 have R2 := R1.inKids (ks := []) hp (upd_same ..)
 repeat walk_at "e"
 refine ⟨Nat.le_of_ble_eq_true rfl, ?_⟩
 have R3 := R2.new (.list [])
 repeat walk_at "e"
 refine a_set (R3.node _ _ _ (atT (setN_same ..))) rfl (Nat.le_of_ble_eq_true rfl) ?_
 have R4 := R3.inQueue (es := []) (qs := []) (setN_same ..) (upd_same ..) trivial
 rw [setN_setN] at R4
 repeat walk_at "e"
 refine R4.setLw (setN_same ..) 0 fun h5 R5 => ?_
 rw [setN_setN] at R5
 have R6 := R5.sub (G' := upd G (cl t p) (kidsO A t np.kids)) fun l o e => by
  have z : l < n := by
   by_cases q : l = cl t p
   ·rw [q]; exact n1
   ·rw [upd_ne _ _ q] at e; exact R.lt _ _ (R.old _ _ e)
  unfold drop
  rw [if_neg (by omega), upd_ne _ _ (by omega)]
  by_cases q : l = cl t p
  ·rw [q, upd_same] at e ⊢; exact e
  ·rw [upd_ne _ _ q] at e ⊢
   rw [if_neg (by omega), upd_ne _ _ (by omega)]; exact e
 have hc5 : setN T p { np with kids := [], queue := [], lw := 0 } c = some nc := (setN_ne _ _ hpc.symm).trans hc
 repeat walk_at "e"
 refine ⟨_, R6.meth (setN_same ..) rfl rfl, ?_⟩
 repeat walk_at "e"
 refine c_fn rfl rfl (f6 (m + 0) R6 (setN_same ..) hc5 hpc nofun (Nat.zero_le _) (Nat.zero_le _) fun h7 n7 R7 => ⟨trivial, ?_⟩)
 repeat walk_at "e"
 refine x_for ?_
 repeat walk_at "e"
 have xs_at : ∀ {h' : Hp} {n' : Nat} {T' : Tr} {cl' ql' : Ad}, Rep A cl' ql' (setT Φ t T') (upd G (cl t p) (kidsO A t np.kids)) h' n' → h' (cl t p) = some (kidsO A t np.kids) := fun R => R.old _ _ (upd_same ..)
 refine ⟨_, it_list (xs_at R7), ?_⟩
 refine forN_wp (xs := np.kids.map fun j => .loc (A t j)) (fun j L h n k' => k' = k ∧ get? L 36 = some (.loc (A t c)) ∧ Rep A _ _ (setT Φ t ((np.kids.take j).foldl (fun T k => addChild T c k) (addChild (setN T p { np with kids := [], queue := [], lw := 0 }) p c))) (upd G (cl t p) (kidsO A t np.kids)) h n)
  (fun j L h n k' w => ⟨at_list (xs_at w.2.2), w.1 ▸ hk⟩) (fun j x L h n k' hx w => ?_) (fun L h n k' w => ?_) 100000 0 (by simp; omega) (Nat.zero_le _) ⟨rfl, rfl, R7⟩
 ·refine xo0_3 w fun e0_ w1 w2 => ?_; clear w; obtain rfl := e0_
  obtain ⟨y, hy, rfl⟩ : ∃ y, np.kids[j]? = some y ∧ x = .loc (A t y) := by
   rw [List.getElem?_map] at hx
   refine xo1_2 (Option.map_eq_some_iff.mp hx) fun y hy e => ?_
   exact ⟨y, hy, e.symm⟩
  refine xo1_6 (hg.get hy) fun nc' g1 g2 g3 g4 g5 g6 => ?_
  refine xo1_1 (Option.ne_none_iff_exists'.mp g6) fun nx g7 => ?_
  have pL : ∀ v, get? (put L 40 v) 36 = some (.loc (A t c)) := fun v => by rw [get_put_ne _ _ (by decide)]; exact w1
  refine t_nm (xs_cons (x_expr (e_mcall (e_lv (pL _) ?_))))
  refine ⟨_, w2.meth g1 rfl rfl, ?_⟩
  refine es_cons (e_lv (get_put _ _ _) ?_)
  repeat walk_at "e"
  refine c_fn rfl rfl (f6 (m + 0) w2 g1 g7 g5 g2 g3 g4 fun h8 n8 R8 => ⟨trivial, ?_⟩)
  repeat walk_at "e"
  refine ⟨rfl, pL _, ?_⟩
  rw [take_succ' hy, List.foldl_append]
  exact R8
 ·refine xo0_3 w fun e0_ w1 w2 => ?_; clear w; obtain rfl := e0_
  repeat walk_at "e"
  have : addExcl T p c = np.kids.foldl (fun T k => addChild T c k) (addChild (setN T p { np with kids := [], queue := [], lw := 0 }) p c) := by unfold addExcl; rw [hp]
  rw [List.length_map, List.take_length, ← this] at w2
  refine hQ _ _ _ _ (w2.sub fun l o e => ?_)
  rw [upd_ne]
  ·exact e
  ·exact fun q => (R.free _ _ e t p (by rw [atT hp]; nofun)).2.1 q.symm
end
end
section
open PySem PySem.W PyProof.Rows
noncomputable def requeue (q : List (Int × Int)) (c : Int) : List (Int × Int) := (q.filter fun x => decide (x.2 ≠ c)).foldl qpush []
noncomputable def cutChild (T : Tr) (p c : Int) : Tr := match T p with
 | some np => setN T p { np with kids := np.kids.erase c, queue := requeue np.queue c }
 | none => T
noncomputable def hangAll (T : Tr) (p : Int) (ks : List Int) : Tr := ks.foldl (fun T k => addChild T p k) T
theorem pushR_len (p : Int × Int) (q : List (Int × Int)) : (pushR p q).length = q.length + 1 := by
 induction q with
 | nil => rfl
 | cons y r ih => unfold pushR; split <;> simp [ih]
theorem qpush_len (q : List (Int × Int)) (p : Int × Int) : (qpush q p).length = q.length + 1 := by unfold qpush; rw [List.length_reverse, pushR_len, List.length_reverse]
theorem pushR_mem {p x : Int × Int} {q : List (Int × Int)} : x ∈ pushR p q ↔ x = p ∨ x ∈ q := by
 induction q with
 | nil => simp [pushR]
 | cons y r ih => unfold pushR; split <;> simp [ih]; exact ⟨fun h => by rcases h with h | h | h <;> simp [h], fun h => by rcases h with h | h | h <;> simp [h]⟩
theorem qpush_mem' {p x : Int × Int} {q : List (Int × Int)} : x ∈ qpush q p ↔ x = p ∨ x ∈ q := by unfold qpush; rw [List.mem_reverse, pushR_mem, List.mem_reverse]
theorem qpush_mem {p x : Int × Int} {q : List (Int × Int)} (e : x ∈ qpush q p) : x = p ∨ x ∈ q := qpush_mem'.mp e
section
variable {C : Nat → List AV → St → R AV} {E : Est} {k n : Nat} {h : Hp} {L : Lo} {A cl ql : Ad} {G : Hp} {Φ : Fo} {t : Nat} {i : Int} {nd : Nd} {T : Tr} {Q : Pst AV}
theorem while_wp {Q : Pst Fl} {test : St → R Bool} {body : St → R Fl} {f : Nat} {s : St} (w : Wp (test s) (fun b L h n k => if b = true then Wp (body ⟨L, h, n, k⟩) (fun fl L h n k => match fl with | .next => Wp (whileN test body f ⟨L, h, n, k⟩) Q E | .cont => Wp (whileN test body f ⟨L, h, n, k⟩) Q E | .brk => Q .next L h n k | .ret v => Q (.ret v) L h n k) E else Q .next L h n k) E) : Wp (whileN test body (f + 1) s) Q E :=
 .bnd (w.imp fun b L h n k w => by
  cases b with
  | true =>
   rw [if_pos rfl] at w
   exact .bnd (Wp.imp w fun fl _ _ _ _ w => by cases fl <;> exact w)
  | false => exact w)
theorem erase_mid {α : Type} (a : List α) (x : α) (b : List α) : (a ++ x :: b).eraseIdx a.length = a ++ b := by
 rw [List.eraseIdx_append_of_length_le (Nat.le_refl _), Nat.sub_self]; rfl
theorem rm_at (m : Nat) (R : Rep A cl ql (setT Φ t T) G h n) {c : Int} (hc : T c ≠ none) {l : Nat} : ∀ (rest pre : List Int) (fuel : Nat), rest.length < fuel → h l = some (kidsO A t (pre ++ rest)) → (∀ y ∈ rest, T y ≠ none) → c ∈ rest → Q .none L (upd h l (kidsO A t (pre ++ rest.erase c))) n k →
  Wp (removeAt sg (callF sg (m + 1)) l (.loc (A t c)) fuel pre.length ⟨L, h, n, k⟩) Q E := by
 intro rest
 induction rest with
 | nil => intro pre fuel _ _ _ hm; exact nomatch hm
 | cons y r ih =>
  intro pre fuel hf hl hy hm hQ
  obtain ⟨f, rfl⟩ : ∃ f, fuel = f + 1 := ⟨fuel - 1, by simp at hf; omega⟩
  have len : (pre.map fun j => AV.loc (A t j)).length = pre.length := by simp
  have lst : ((pre ++ y :: r).map fun j => AV.loc (A t j)) = pre.map (fun j => AV.loc (A t j)) ++ .loc (A t y) :: r.map (fun j => AV.loc (A t j)) := by simp
  have g : ((pre ++ y :: r).map fun j => AV.loc (A t j))[pre.length]? = some (.loc (A t y)) := by rw [lst, ← len]; exact get_mid _ _ _
  show Wp (atObj ⟨L, h, n, k⟩ l _) Q E
  refine .atO hl ?_
  show Wp (match ((pre ++ y :: r).map fun j => AV.loc (A t j))[pre.length]? with | some y => (eqIt sg (callF sg (m + 1)) y (.loc (A t c)) ⟨L, h, n, k⟩).bnd fun t s => if t then cutAt l pre.length s else removeAt sg (callF sg (m + 1)) l _ f (pre.length + 1) s | none => .bad) Q E
  rw [g]
  show Wp (Mine.R.bnd (if A t y = A t c then Mine.R.ok true _ else _) _) Q E
  by_cases q : y = c
  ·subst q
   rw [if_pos rfl]
   rw [List.erase_cons_head] at hQ
   have : ((pre ++ y :: r).map fun j => AV.loc (A t j)).eraseIdx pre.length = (pre ++ r).map fun j => AV.loc (A t j) := by
    rw [lst, ← len, erase_mid]; simp
   refine .atO hl ?_
   show Q .none L (upd h l (.list (((pre ++ y :: r).map fun j => AV.loc (A t j)).eraseIdx pre.length))) n k
   rw [this]
   exact hQ
  ·have ny := hy y (.head _)
   rw [if_neg fun w => q (R.aa _ _ _ _ (by rw [setT_same]; exact ny) (by rw [setT_same]; exact hc) w).2]
   refine .bnd (k_eqS m (R.keyed ny) (R.keyed hc) ?_)
   rw [decide_eq_false q]
   have e1 : (y :: r).erase c = y :: r.erase c := List.erase_cons_tail (by simpa using q)
   have := ih (pre ++ [y]) f (by simp at hf; omega) (by rw [List.append_assoc]; exact hl) (fun z hz => hy z (.tail _ hz)) (by
    rcases List.mem_cons.mp hm with w | w
    ·exact (q w.symm).elim
    ·exact w) (by rw [List.append_assoc]; rw [e1] at hQ; exact hQ)
   rw [List.length_append] at this
   exact this
structure F8 (A : Ad) (t : Nat) (p c : Int) (b : Bool) (nq : Nat) (L : Lo) : Prop where
 l20 : get? L 20 = some (.loc (A t p))
 l36 : get? L 36 = some (.loc (A t c))
 l41 : get? L 41 = some (.bool b)
 l44 : get? L 44 = some (.loc nq)
theorem F8.put {p c : Int} {b : Bool} {nq : Nat} (x : F8 A t p c b nq L) {j : Nat} (v : AV) (h1 : j ≠ 20) (h2 : j ≠ 36) (h3 : j ≠ 41) (h4 : j ≠ 44) : F8 A t p c b nq (put L j v) :=
 ⟨by rw [get_put_ne _ _ h1.symm]; exact x.l20, by rw [get_put_ne _ _ h2.symm]; exact x.l36, by rw [get_put_ne _ _ h3.symm]; exact x.l41, by rw [get_put_ne _ _ h4.symm]; exact x.l44⟩
theorem w8 (m : Nat) {p c : Int} {b : Bool} {nq : Nat} {np : Nd} {Q : Pst Fl} (hk : k ≤ 1) (hc : T c ≠ none) (hG : G nq = none)
  : ∀ (qs : List (Int × Int)) (fuel : Nat) (acc : List (Int × Int)) (es : List Nat) (L : Lo) (h : Hp) (n : Nat), qs.length < fuel → qs.length + acc.length ≤ 1000 → (∀ x ∈ qs, T x.2 ≠ none) → (∀ x ∈ acc, T x.2 ≠ none) → F8 A t p c b nq L →
   Rep A cl ql (setT Φ t (setN T p { np with queue := qs })) (upd G nq (entsO es)) h n → Ents A t h es acc →
   (∀ L h n es, F8 A t p c b nq L → Rep A cl ql (setT Φ t (setN T p { np with queue := [] })) (upd G nq (entsO es)) h n → Ents A t h es ((qs.filter fun x => decide (x.2 ≠ c)).foldl qpush acc) → Q .next L h n k) →
   Wp (whileN (fun s => evalT sg (callF sg (m + 4)) (b8.at 2).tst s) (fun s => execs sg (callF sg (m + 4)) (b8.at 2).bdy s) fuel ⟨L, h, n, k⟩) Q E := by
 intro qs
 induction qs with
 | nil =>
  intro fuel acc es L h n hf hlen hq hacc FL R he hQ
  obtain ⟨f, rfl⟩ : ∃ f, fuel = f + 1 := ⟨fuel - 1, by simp at hf; omega⟩
  refine while_wp (e_test ?_)
  refine xo1_2 (R.queue _ _ _ (atT (setN_same ..))) fun ql1 q1 q2 => ?_
  obtain rfl : ql1 = [] := by cases ql1 with | nil => rfl | cons _ _ => exact q2.elim
  have l20 := FL.l20
  delta b8
  dsimp only [Ss.at, S.tst]
  repeat walk_at "e"
  refine R.getQ (setN_same ..) ?_
  refine t_list q1 ?_
  repeat walk_at "e"
  exact hQ _ _ _ _ FL R he
 | cons x qs ih =>
  intro fuel acc es L h n hf hlen hq hacc FL R he hQ
  obtain ⟨f, rfl⟩ : ∃ f, fuel = f + 1 := ⟨fuel - 1, by simp at hf; omega⟩
  refine while_wp (e_test ?_)
  refine xo1_2 (R.queue _ _ _ (atT (setN_same ..))) fun ql1 q1 q2 => ?_
  obtain ⟨lv, i⟩ := x
  cases ql1 with
  | nil => exact q2.elim
  | cons e ql1 =>
   revert q2; refine fun z_ => xo0_2 z_ fun q2 q3 => ?_; clear z_
   have l20 := FL.l20
   have ni : T i ≠ none := hq (lv, i) (.head _)
   have lt1 : ql t p < n := R.lt _ _ q1
   have R1 := R.upQueue (setN_same ..) q3
   rw [setN_setN] at R1
   have q4 : upd h (ql t p) (entsO ql1) e = some (.tup [.int lv, .loc (A t i)]) := by
    rw [upd_ne _ _ fun w => by rw [w, q1] at q2; cases q2]; exact q2
   have he1 : Ents A t (upd h (ql t p) (entsO ql1)) es acc := he.keep (keepTup q1 rfl _)
   delta b8
   dsimp only [Ss.at, S.tst, S.bdy]
   repeat walk_at "e"
   refine R.getQ (setN_same ..) ?_
   refine t_list q1 ?_
   repeat walk_at "e"
   refine R.getQ (setN_same ..) ?_
   repeat walk_at "e"
   refine c_fn rfl rfl (.eq (f2 (m + 3) q1) ?_)
   refine ⟨_, _, _, rfl, q4, hk, ?_⟩
   have FL2 := (FL.put (j := 45) (.int lv) (by decide) (by decide) (by decide) (by decide)).put (j := 46) (.loc (A t i)) (by decide) (by decide) (by decide) (by decide)
   have l46 : get? (put (put L 45 (.int lv)) 46 (.loc (A t i))) 46 = some (.loc (A t i)) := get_put _ _ _
   have l45 : get? (put (put L 45 (.int lv)) 46 (.loc (A t i))) 45 = some (.int lv) := by rw [get_put_ne _ _ (by decide)]; exact get_put _ _ _
   have l36 := FL2.l36
   have l44 := FL2.l44
   have d : ∀ {j : Int}, T j ≠ none → setN T p { np with queue := qs } j ≠ none := setN_dom
   repeat walk_at "e"
   show Wp (eqv sg (callF sg (m + 3 + 1)) (.loc (A t i)) (.loc (A t c)) _) _ _
   refine k_eqS (m + 3) (R1.keyed (d ni)) (R1.keyed (d hc)) ?_
   repeat walk_at "e"
   refine it_s (fun w => ?_) fun w => ?_
   ·have w := of_decide_eq_true w
    repeat walk_at "e"
    refine ih f acc es _ _ _ (by simp at hf; omega) (by simp at hlen; omega) (fun x hx => hq x (.tail _ hx)) hacc FL2 R1 he1 fun L h n es a1 a2 a3 => hQ L h n es a1 a2 ?_
    rw [List.filter_cons_of_neg (by simpa using w)]
    exact a3
   ·have w := of_decide_eq_false w
    repeat walk_at "e"
    refine ⟨Nat.le_of_ble_eq_true rfl, ?_⟩
    repeat walk_at "e"
    have R2 := R1.junk (.tup [.int lv, .loc (A t i)])
    have z : nq ≠ n := fun w => by have := R1.lt nq _ (R1.old _ _ (upd_same ..)); omega
    have fr : upd h (ql t p) (entsO ql1) n = none := R1.fresh (Nat.le_refl _)
    have kp : ∀ b x, upd h (ql t p) (entsO ql1) b = some x → upd (upd h (ql t p) (entsO ql1)) n (.tup [.int lv, .loc (A t i)]) b = some x := fun b x e => by
     rw [upd_ne _ _ fun w => by rw [w, fr] at e; cases e]; exact e
    refine c_fn rfl rfl (R2.push (m + 1) (R2.old _ _ (upd_same ..)) (he1.keep fun _ _ => kp _ _) (fun x hx => d (hacc x hx)) (upd_same ..) (d ni) (by simp at hlen; omega) fun es' e3 => ⟨trivial, ?_⟩)
    have R3 := R2.put (l := nq) (upd_same ..) rfl (entsO es')
    rw [upd_upd] at R3
    have e4 : Ents A t (upd (upd (upd h (ql t p) (entsO ql1)) n (.tup [.int lv, .loc (A t i)])) nq (entsO es')) es' (qpush acc (lv, i)) := e3.keep (keepTup (R2.old _ _ (upd_same ..)) rfl _)
    repeat walk_at "e"
    refine ih f (qpush acc (lv, i)) es' _ _ _ (by simp at hf; omega) (by rw [qpush_len]; simp at hlen; omega) (fun x hx => hq x (.tail _ hx)) (fun x hx => ?_) FL2 R3 e4 fun L h n es a1 a2 a3 => hQ L h n es a1 a2 ?_
    ·rcases qpush_mem hx with rfl | hx
     ·exact ni
     ·exact hacc x hx
    ·rw [List.filter_cons_of_pos (by simpa using w)]
     exact a3
end
end
section
open PySem PySem.W PyProof.Rows
noncomputable def rmChild (T : Tr) (p c : Int) (b : Bool) : Tr := if b = true then (match T c with | some nc => hangAll (cutChild T p c) p nc.kids | none => T) else cutChild T p c
section
variable {C : Nat → List AV → St → R AV} {E : Est} {k n : Nat} {h : Hp} {L : Lo} {A cl ql : Ad} {G : Hp} {Φ : Fo} {t : Nat} {i : Int} {nd : Nd} {T : Tr} {Q : Pst AV}
theorem addChild_at {p c j : Int} (hj : j ≠ p) : (addChild T p c j).map (·.kids) = (T j).map (·.kids) := by
 cases h1 : T p with
 | none => unfold addChild; rw [h1]
 | some np =>
  cases h2 : T c with
  | none => unfold addChild; rw [h1, h2]
  | some nc =>
   rw [addChild_eq h1 h2, setN_ne _ _ hj]
   by_cases q : j = c
   ·subst q; rw [setN_same, h2]; rfl
   ·rw [setN_ne _ _ q]
theorem hangAll_at {p j : Int} (hj : j ≠ p) (ks : List Int) : (hangAll T p ks j).map (·.kids) = (T j).map (·.kids) := by
 unfold hangAll
 induction ks generalizing T with
 | nil => rfl
 | cons x r ih => exact (ih (T := addChild T p x)).trans (addChild_at hj)
theorem f8 (m : Nat) {p c : Int} {np nc : Nd} {b : Bool} (R : Rep A cl ql (setT Φ t T) G h n) (hk : k ≤ 1) (hp : T p = some np) (hc : T c = some nc) (hpc : p ≠ c) (hm : c ∈ np.kids) (hy : ∀ y ∈ np.kids, T y ≠ none) (hq : ∀ x ∈ np.queue, T x.2 ≠ none)
  (hl1 : np.kids.length ≤ 1000) (hl2 : np.queue.length ≤ 1000) (hb : b = true → Hang (cutChild T p c) p nc.kids ∧ nc.kids.length ≤ 1000)
  (hQ : ∀ ql' h' n', Rep A cl ql' (setT Φ t (rmChild T p c b)) G h' n' → Q .none L h' n' k) : Wp (callF sg (m + 5) 8 [.loc (A t p), .loc (A t c), .bool b] ⟨L, h, n, k⟩) Q E := by
 refine c_in rfl ?_
 show Wp (execs sg _ b8 ⟨[(20, .loc (A t p)), (36, .loc (A t c)), (41, .bool b)], h, n, k⟩) _ _
 delta b8
 repeat walk_at "e"
 refine R.getKids hp ?_
 have hcl := R.kids _ _ _ (atT hp)
 refine ⟨_, m_remove hcl, ?_⟩
 repeat walk_at "e"
 have nc0 : T c ≠ none := by rw [hc]; nofun
 refine c_remove hcl ?_
 refine rm_at (m + 3) R nc0 np.kids [] _ (by simp) hcl hy hm ⟨trivial, ?_⟩
 rw [List.nil_append]
 have R1 := R.upKids hp (np.kids.erase c)
 have d1 : ∀ {j : Int} {x : Nd}, T j ≠ none → setN T p x j ≠ none := setN_dom
 repeat walk_at "e"
 refine ⟨Nat.le_of_ble_eq_true rfl, ?_⟩
 have R2 := R1.new (.list [])
 have eG : upd G n (.list []) = upd (drop G n) n (entsO []) := by
  funext x; unfold upd drop; split <;> rename_i q
  ·rfl
  ·rfl
 rw [eG] at R2
 repeat walk_at "e"
 refine x_whl ?_
 have F0 : F8 A t p c b n (put [(20, .loc (A t p)), (36, .loc (A t c)), (41, .bool b)] 44 (.loc n)) := ⟨rfl, rfl, rfl, rfl⟩
 refine w8 (cl := cl) (ql := ql) (Φ := Φ) (G := drop G n) (np := { np with kids := np.kids.erase c }) m hk nc0 (by unfold drop; exact if_pos rfl) np.queue 100000 [] [] _ _ _ (by omega) (by simpa using hl2) hq nofun F0 ?_ trivial fun L' h' n' es FL R3 e3 => ?_
 ·have : setN T p { np with kids := np.kids.erase c } = setN T p { { np with kids := np.kids.erase c } with queue := np.queue } := rfl
  exact R2
 have l20 := FL.l20
 have l36 := FL.l36
 have l41 := FL.l41
 have l44 := FL.l44
 repeat walk_at "e"
 refine a_set (R3.node _ _ _ (atT (setN_same ..))) rfl (Nat.le_of_ble_eq_true rfl) ?_
 have R4 := R3.inQueue (setN_same ..) (upd_same ..) e3
 rw [setN_setN] at R4
 have eT : setN T p { np with kids := np.kids.erase c, queue := (np.queue.filter fun x => decide (x.2 ≠ c)).foldl qpush [] } = cutChild T p c := by unfold cutChild requeue; rw [hp]
 have R5 : Rep A cl (updA ql t p n) (setT Φ t (cutChild T p c)) G _ n' := (eT ▸ R4).sub fun l o e => by
  have z : l < n := R.lt _ _ (R.old _ _ e)
  unfold drop
  rw [if_neg (by omega), upd_ne _ _ (by omega)]
  rw [if_neg (by omega)]; exact e
 repeat walk_at "e"
 refine it_s (fun w => ?_) fun w => ?_
 ·subst w
  refine xo0_2 (hb rfl) fun hg hl3 => ?_
  have kc : ∀ ks, ∃ nx, hangAll (cutChild T p c) p ks c = some nx ∧ nx.kids = nc.kids := fun ks => by
   have h1 := hangAll_at (T := cutChild T p c) hpc.symm ks
   have h2 : cutChild T p c c = some nc := by rw [← eT]; exact (setN_ne _ _ hpc.symm).trans hc
   rw [h2] at h1
   cases q : hangAll (cutChild T p c) p ks c with
   | none => rw [q] at h1; exact nsE h1
   | some nx => rw [q] at h1; exact ⟨nx, rfl, Option.some.inj h1⟩
  refine xo1_2 (kc []) fun n0 k1 k2 => ?_
  repeat walk_at "e"
  refine x_for ?_
  repeat walk_at "e"
  refine R5.getKids k1 ?_
  have xs_at : ∀ {h' : Hp} {n' : Nat} {ks : List Int}, Rep A cl (updA ql t p n) (setT Φ t (hangAll (cutChild T p c) p ks)) G h' n' → h' (cl t c) = some (kidsO A t nc.kids) := fun {h' n' ks} R => by
   refine xo1_2 (kc ks) fun nx k1 k2 => ?_
   rw [← k2]
   exact R.kids _ _ _ (atT k1)
  refine ⟨_, it_list (xs_at (ks := []) R5), ?_⟩
  refine forN_wp (xs := nc.kids.map fun j => .loc (A t j)) (fun j L h n1 k' => k' = k ∧ get? L 20 = some (.loc (A t p)) ∧ Rep A cl (updA ql t p n) (setT Φ t (hangAll (cutChild T p c) p (nc.kids.take j))) G h n1)
   (fun j L h n k' w => ⟨at_list (xs_at w.2.2), w.1 ▸ hk⟩) (fun j x L h n k' hx w => ?_) (fun L h n k' w => ?_) 100000 0 (by simp; omega) (Nat.zero_le _) ⟨rfl, l20, R5⟩
  ·refine xo0_3 w fun e0_ w1 w2 => ?_; clear w; obtain rfl := e0_
   obtain ⟨y, hy, rfl⟩ : ∃ y, nc.kids[j]? = some y ∧ x = .loc (A t y) := by
    rw [List.getElem?_map] at hx
    refine xo1_2 (Option.map_eq_some_iff.mp hx) fun y hy e => ?_
    exact ⟨y, hy, e.symm⟩
   refine xo1_6 (hg.get hy) fun nc' g1 g2 g3 g4 g5 g6 => ?_
   refine xo1_1 (Option.ne_none_iff_exists'.mp g6) fun nx g7 => ?_
   have pL : get? (put L 47 (.loc (A t y))) 20 = some (.loc (A t p)) := by rw [get_put_ne _ _ (by decide)]; exact w1
   have pL2 : get? (put L 47 (.loc (A t y))) 47 = some (.loc (A t y)) := get_put _ _ _
   refine t_nm ?_
   repeat walk_at "e"
   refine ⟨_, w2.meth g1 rfl rfl, ?_⟩
   repeat walk_at "e"
   refine c_fn rfl rfl (f6 (m + 0) w2 g1 g7 g5 g2 g3 g4 fun h8 n8 R8 => ⟨trivial, ?_⟩)
   repeat walk_at "e"
   refine ⟨rfl, pL, ?_⟩
   rw [take_succ' hy]
   unfold hangAll
   rw [List.foldl_append]
   exact R8
  ·refine xo0_3 w fun e0_ w1 w2 => ?_; clear w; obtain rfl := e0_
   repeat walk_at "e"
   have : rmChild T p c true = hangAll (cutChild T p c) p nc.kids := by unfold rmChild; rw [if_pos rfl, hc]
   rw [List.length_map, List.take_length, ← this] at w2
   exact hQ _ _ _ w2
 ·subst w
  repeat walk_at "e"
  exact hQ _ _ _ R5
end
end
section
open PySem
noncomputable def turn1 (T : Tr) (i : Int) (x : Int × Int) : Tr := match T i, T x.2 with
 | some ni, some nc => setN (setN T x.2 { nc with df := Int.fmod (256 + nc.df) nc.w }) i { ni with lw := x.1, queue := qpush ni.queue (x.1 + Int.fdiv (256 + nc.df) nc.w, x.2) }
 | _, _ => T
noncomputable def spent (T : Tr) (i : Int) (xs : List (Int × Int)) : Tr := xs.foldl (fun T x => turn1 T i x) T
noncomputable def seek (sub : Tr → Int → Tr × Option Int) (i : Int) : List (Int × Int) → Tr → List (Int × Int) → Tr × List (Int × Int) × Option Int
 | [], T, acc => (T, acc, none)
 | x :: r, T, acc => match T i, T x.2 with
  | some ni, some nc =>
   if nc.act = true then (setN T i { ni with queue := r }, acc ++ [x], some x.2)
   else match sub (setN T i { ni with queue := r }) x.2 with
    | (T2, some y) => (T2, acc ++ [x], some y)
    | (T2, none) => seek sub i r T2 (acc ++ [x])
  | _, _ => (T, acc, none)
noncomputable def sched : Nat → Tr → Int → Tr × Option Int
 | 0, T, _ => (T, none)
 | d + 1, T, i => match T i with
  | some ni => (spent (seek (sched d) i ni.queue T []).1 i (seek (sched d) i ni.queue T []).2.1, (seek (sched d) i ni.queue T []).2.2)
  | none => (T, none)
theorem turn1_eq {T : Tr} {i : Int} {x : Int × Int} {ni nc : Nd} (h1 : T i = some ni) (h2 : T x.2 = some nc) : turn1 T i x = setN (setN T x.2 { nc with df := Int.fmod (256 + nc.df) nc.w }) i { ni with lw := x.1, queue := qpush ni.queue (x.1 + Int.fdiv (256 + nc.df) nc.w, x.2) } := by
 unfold turn1; rw [h1, h2]
theorem seek_act {sub : Tr → Int → Tr × Option Int} {i : Int} {x : Int × Int} {r acc : List (Int × Int)} {T : Tr} {ni nc : Nd} (h1 : T i = some ni) (h2 : T x.2 = some nc) (h3 : nc.act = true) : seek sub i (x :: r) T acc = (setN T i { ni with queue := r }, acc ++ [x], some x.2) := by
 rw [seek, h1, h2]; dsimp only; rw [if_pos h3]
theorem seek_sub {sub : Tr → Int → Tr × Option Int} {i : Int} {x : Int × Int} {r acc : List (Int × Int)} {T : Tr} {ni nc : Nd} (h1 : T i = some ni) (h2 : T x.2 = some nc) (h3 : nc.act = false) : seek sub i (x :: r) T acc =
  (match sub (setN T i { ni with queue := r }) x.2 with | (T2, some y) => (T2, acc ++ [x], some y) | (T2, none) => seek sub i r T2 (acc ++ [x])) := by
 rw [seek, h1, h2]; dsimp only; rw [if_neg (by rw [h3]; nofun)]
theorem sched_eq {d : Nat} {T : Tr} {i : Int} {ni : Nd} (h : T i = some ni) : sched (d + 1) T i = (spent (seek (sched d) i ni.queue T []).1 i (seek (sched d) i ni.queue T []).2.1, (seek (sched d) i ni.queue T []).2.2) := by
 rw [sched, h]
structure WS (T : Tr) (rk : Int → Nat) : Prop where
 w : ∀ j nd, T j = some nd → 1 ≤ nd.w ∧ nd.w ≤ 256
 len : ∀ j nd, T j = some nd → nd.queue.length ≤ 900
 q : ∀ j nd, T j = some nd → ∀ x ∈ nd.queue, T x.2 ≠ none ∧ rk x.2 < rk j
structure Like (a b : Nd) : Prop where
 w : b.w = a.w
 act : b.act = a.act
 par : b.par = a.par
 kids : b.kids = a.kids
 queue : (b.queue.map (·.2)).Perm (a.queue.map (·.2))
theorem Like.refl (a : Nd) : Like a a := ⟨rfl, rfl, rfl, rfl, .refl _⟩
theorem Like.trans {a b c : Nd} (x : Like a b) (y : Like b c) : Like a c := ⟨y.w.trans x.w, y.act.trans x.act, y.par.trans x.par, y.kids.trans x.kids, y.queue.trans x.queue⟩
noncomputable def OLike (a b : Option Nd) : Prop := (a = none ∧ b = none) ∨ ∃ x y, a = some x ∧ b = some y ∧ Like x y
theorem OLike.refl (a : Option Nd) : OLike a a := by
 cases a with
 | none => exact .inl ⟨rfl, rfl⟩
 | some x => exact .inr ⟨x, x, rfl, rfl, .refl x⟩
theorem OLike.trans {a b c : Option Nd} (x : OLike a b) (y : OLike b c) : OLike a c := by
 rcases x with ⟨rfl, rfl⟩ | ⟨u, v, rfl, rfl, x⟩
 ·exact y
 ·rcases y with ⟨h, _⟩ | ⟨u', v', h, rfl, y⟩
  ·exact snE h
  ·cases h; exact .inr ⟨_, _, rfl, rfl, x.trans y⟩
theorem OLike.get {a b : Option Nd} (x : OLike a b) {u : Nd} (e : a = some u) : ∃ v, b = some v ∧ Like u v := by
 rcases x with ⟨rfl, _⟩ | ⟨x, y, rfl, rfl, z⟩
 ·exact nsE e
 ·cases e; exact ⟨_, rfl, z⟩
theorem OLike.back {a b : Option Nd} (x : OLike a b) {v : Nd} (e : b = some v) : ∃ u, a = some u ∧ Like u v := by
 rcases x with ⟨_, rfl⟩ | ⟨x, y, rfl, rfl, z⟩
 ·exact nsE e
 ·cases e; exact ⟨_, rfl, z⟩
theorem OLike.none {a b : Option Nd} (x : OLike a b) : a = none ↔ b = none := by
 rcases x with ⟨rfl, rfl⟩ | ⟨x, y, rfl, rfl, z⟩ <;> simp
theorem perm_qpush (q : List (Int × Int)) (p : Int × Int) : (qpush q p).Perm (p :: q) := by
 have : ∀ l : List (Int × Int), (pushR p l).Perm (p :: l) := fun l => by
  induction l with
  | nil => exact .refl _
  | cons y r ih =>
   unfold pushR
   split
   ·exact (ih.cons y).trans (.swap p y r)
   ·exact .refl _
 unfold qpush
 exact (List.reverse_perm _).trans ((this _).trans ((List.reverse_perm q).cons p))
theorem WS.alike {T T' : Tr} {rk : Int → Nat} (x : WS T rk) (i : Int) (h : ∀ j, j ≠ i → OLike (T j) (T' j)) {ni : Nd} (hi : T i = some ni) {ni' : Nd} (hi' : T' i = some ni') (hw : ni'.w = ni.w) (hl : ni'.queue.length ≤ 900) (hq : ∀ y ∈ ni'.queue, T y.2 ≠ none ∧ rk y.2 < rk i) : WS T' rk := by
 have nn : ∀ j, T j ≠ none → T' j ≠ none := fun j hj => by
  by_cases q : j = i
  ·subst q; rw [hi']; nofun
  ·exact fun w => hj ((h j q).none.mpr w)
 refine ⟨fun j nd e => ?_, fun j nd e => ?_, fun j nd e y hy => ?_⟩
 ·by_cases q : j = i
  ·subst q; rw [hi'] at e; cases e; rw [hw]; exact x.w _ _ hi
  ·refine xo1_2 ((h j q).back e) fun u e1 e2 => ?_
   rw [e2.w]; exact x.w _ _ e1
 ·by_cases q : j = i
  ·subst q; rw [hi'] at e; cases e; exact hl
  ·refine xo1_2 ((h j q).back e) fun u e1 e2 => ?_
   have := e2.queue.length_eq
   rw [List.length_map, List.length_map] at this
   rw [this]; exact x.len _ _ e1
 ·by_cases q : j = i
  ·subst q; rw [hi'] at e; cases e; exact ⟨nn _ (hq y hy).1, (hq y hy).2⟩
  ·refine xo1_2 ((h j q).back e) fun u e1 e2 => ?_
   have : y.2 ∈ u.queue.map (·.2) := e2.queue.mem_iff.mp (List.mem_map.mpr ⟨y, hy, rfl⟩)
   refine xo1_2 (List.mem_map.mp this) fun z hz ez => ?_
   have := x.q _ _ e1 z hz
   rw [ez] at this
   exact ⟨nn _ this.1, this.2⟩
theorem WS.all {T T' : Tr} {rk : Int → Nat} (x : WS T rk) (h : ∀ j, OLike (T j) (T' j)) : WS T' rk := by
 refine ⟨fun j nd e => ?_, fun j nd e => ?_, fun j nd e y hy => ?_⟩
 ·obtain ⟨u, e1, e2⟩ := (h j).back e; rw [e2.w]; exact x.w _ _ e1
 ·refine xo1_2 ((h j).back e) fun u e1 e2 => ?_
  have := e2.queue.length_eq
  rw [List.length_map, List.length_map] at this
  rw [this]; exact x.len _ _ e1
 ·refine xo1_2 ((h j).back e) fun u e1 e2 => ?_
  have : y.2 ∈ u.queue.map (·.2) := e2.queue.mem_iff.mp (List.mem_map.mpr ⟨y, hy, rfl⟩)
  refine xo1_2 (List.mem_map.mp this) fun z hz ez => ?_
  have := x.q _ _ e1 z hz
  rw [ez] at this
  exact ⟨fun w => this.1 ((h _).none.mpr w), this.2⟩
noncomputable def Closed (T : Tr) (S : Int → Prop) : Prop := ∀ j nd, S j → T j = some nd → ∀ x ∈ nd.queue, S x.2
theorem Closed.all {T T' : Tr} {S : Int → Prop} (x : Closed T S) (h : ∀ j, OLike (T j) (T' j)) : Closed T' S := fun j nd hj e y hy => by
 refine xo1_2 ((h j).back e) fun u e1 e2 => ?_
 have : y.2 ∈ u.queue.map (·.2) := e2.queue.mem_iff.mp (List.mem_map.mpr ⟨y, hy, rfl⟩)
 refine xo1_2 (List.mem_map.mp this) fun z hz ez => ?_
 rw [← ez]
 exact x j u hj e1 z hz
structure Turned (T : Tr) (i : Int) (T' : Tr) : Prop where
 like : ∀ j, OLike (T j) (T' j)
 frame : ∀ S, Closed T S → S i → ∀ j, ¬ S j → T' j = T j
theorem spent_ok {T : Tr} {i : Int} {rk : Int → Nat} : ∀ (xs : List (Int × Int)) (T : Tr) (ni : Nd), T i = some ni → (∀ x ∈ xs, T x.2 ≠ none ∧ x.2 ≠ i) → (∃ ni', spent T i xs i = some ni' ∧ ni'.w = ni.w ∧ ni'.act = ni.act ∧ ni'.par = ni.par ∧ ni'.kids = ni.kids ∧ (ni'.queue.map (·.2)).Perm (xs.map (·.2) ++ ni.queue.map (·.2))) ∧
  (∀ j, j ≠ i → OLike (T j) (spent T i xs j)) ∧ (∀ j, j ≠ i → j ∉ xs.map (·.2) → spent T i xs j = T j) := by
 intro xs
 induction xs with
 | nil => intro T ni h _; exact ⟨⟨ni, h, rfl, rfl, rfl, rfl, .refl _⟩, fun j _ => .refl _, fun j _ _ => rfl⟩
 | cons x r ih =>
  intro T ni h hx
  refine xo0_2 (hx x (.head _)) fun h1 h2 => ?_
  refine xo1_1 (Option.ne_none_iff_exists'.mp h1) fun nc hc => ?_
  have e := turn1_eq h hc
  have a1 : turn1 T i x i = some { ni with lw := x.1, queue := qpush ni.queue (x.1 + Int.fdiv (256 + nc.df) nc.w, x.2) } := by rw [e]; exact setN_same ..
  have a2 : ∀ j, j ≠ i → OLike (T j) (turn1 T i x j) := fun j hj => by
   rw [e, setN_ne _ _ hj]
   by_cases q : j = x.2
   ·subst q; rw [setN_same, hc]; exact .inr ⟨_, _, rfl, rfl, rfl, rfl, rfl, rfl, .refl _⟩
   ·rw [setN_ne _ _ q]; exact .refl _
  have a3 : ∀ j, j ≠ i → j ≠ x.2 → turn1 T i x j = T j := fun j hj hx => by rw [e, setN_ne _ _ hj, setN_ne _ _ hx]
  obtain ⟨⟨ni', b1, b2, b3, b4, b5, b6⟩, b7, b8⟩ := ih (turn1 T i x) _ a1 (fun y hy => by
   refine xo0_2 (hx y (.tail _ hy)) fun z1 z2 => ?_
   exact ⟨fun w => z1 ((a2 _ z2).none.mpr w), z2⟩)
  refine ⟨⟨ni', b1, b2, b3, b4, b5, b6.trans ?_⟩, fun j hj => (a2 j hj).trans (b7 j hj), fun j hj hm => ?_⟩
  ·refine (((perm_qpush _ _).map _).append_left _).trans ?_
   rw [List.map_cons, List.map_cons]
   exact List.perm_middle
  ·rw [List.map_cons, List.mem_cons, not_or] at hm
   exact (b8 j hj hm.2).trans (a3 j hj hm.1)
theorem seek_ok {i : Int} {rk : Int → Nat} {sub : Tr → Int → Tr × Option Int} (hs : ∀ T c, WS T rk → rk c < rk i → T c ≠ none → Turned T c (sub T c).1) : ∀ (q : List (Int × Int)) (T : Tr) (acc : List (Int × Int)) (ni : Nd), WS T rk → T i = some ni → ni.queue = q →
  ∃ took rest, q = took ++ rest ∧ (seek sub i q T acc).2.1 = acc ++ took ∧ (seek sub i q T acc).1 i = some { ni with queue := rest } ∧ (∀ j, j ≠ i → OLike (T j) ((seek sub i q T acc).1 j)) ∧ (∀ S, Closed T S → S i → ∀ j, ¬ S j → (seek sub i q T acc).1 j = T j) := by
 intro q
 induction q with
 | nil => intro T acc ni W h e; refine ⟨[], [], rfl, by rw [seek, List.append_nil], ?_, fun j _ => .refl _, fun S _ _ j _ => rfl⟩; rw [seek, ← e]; exact h
 | cons x r ih =>
  intro T acc ni W h e
  obtain ⟨h1, h2⟩ := W.q _ _ h x (by rw [e]; exact .head _)
  refine xo1_1 (Option.ne_none_iff_exists'.mp h1) fun nc hc => ?_
  have ne : x.2 ≠ i := fun w => by rw [w] at h2; omega
  have o1 : ∀ j, j ≠ i → OLike (T j) (setN T i { ni with queue := r } j) := fun j hj => by rw [setN_ne _ _ hj]; exact .refl _
  have lr : r.length ≤ 900 := by have := W.len _ _ h; rw [e] at this; simp at this; omega
  have W1 : WS (setN T i { ni with queue := r }) rk := W.alike i o1 h (setN_same ..) rfl lr fun y hy => W.q _ _ h y (by rw [e]; exact .tail _ hy)
  have c1 : ∀ S, Closed T S → Closed (setN T i { ni with queue := r }) S := fun S hS j nd hj e' y hy => by
   by_cases q : j = i
   ·subst q; rw [setN_same] at e'; cases e'; exact hS j ni hj h y (by rw [e]; exact .tail _ hy)
   ·rw [setN_ne _ _ q] at e'; exact hS j nd hj e' y hy
  cases ha : nc.act with
  | true =>
   rw [seek_act h hc ha]
   refine ⟨[x], r, rfl, rfl, setN_same .., o1, fun S hS hi j hj => setN_ne _ _ fun w => hj (w ▸ hi)⟩
  | false =>
   have t := hs (setN T i { ni with queue := r }) x.2 W1 h2 (by rw [setN_ne _ _ ne]; exact h1)
   have i2 : (sub (setN T i { ni with queue := r }) x.2).1 i = some { ni with queue := r } := by
    rw [t.frame (fun j => rk j ≤ rk x.2) (fun j nd hj e' y hy => by have := (W1.q _ _ e' y hy).2; omega) (Nat.le_refl _) i (by omega)]
    exact setN_same ..
   have o2 : ∀ j, j ≠ i → OLike (T j) ((sub (setN T i { ni with queue := r }) x.2).1 j) := fun j hj => (o1 j hj).trans (t.like j)
   have f2 : ∀ S, Closed T S → S i → ∀ j, ¬ S j → (sub (setN T i { ni with queue := r }) x.2).1 j = T j := fun S hS hi j hj => by
    rw [t.frame S (c1 S hS) (hS i ni hi h x (by rw [e]; exact .head _)) j hj]
    exact setN_ne _ _ fun w => hj (w ▸ hi)
   rw [seek_sub h hc ha]
   cases hr : sub (setN T i { ni with queue := r }) x.2 with
   | mk T2 o =>
    rw [hr] at i2 o2 f2
    dsimp only at i2 o2 f2
    cases o with
    | some y => exact ⟨[x], r, rfl, rfl, i2, o2, f2⟩
    | none =>
     have W2 : WS T2 rk := W.alike i o2 h i2 rfl lr fun y hy => W.q _ _ h y (by rw [e]; exact .tail _ hy)
     refine xo2_5 (ih T2 (acc ++ [x]) _ W2 i2 rfl) fun took rest b1 b2 b3 b4 b5 => ?_
     refine ⟨x :: took, rest, by rw [b1]; rfl, by rw [b2, List.append_assoc]; rfl, b3, fun j hj => (o2 j hj).trans (b4 j hj), fun S hS hi j hj => ?_⟩
     refine (b5 S (fun j nd hj e' y hy => ?_) hi j hj).trans (f2 S hS hi j hj)
     by_cases q : j = i
     ·subst q; rw [i2] at e'; cases e'; exact hS j ni hj h y (by rw [e]; exact .tail _ hy)
     ·refine xo1_2 ((o2 j q).back e') fun u e1 e2 => ?_
      have : y.2 ∈ u.queue.map (·.2) := e2.queue.mem_iff.mp (List.mem_map.mpr ⟨y, hy, rfl⟩)
      refine xo1_2 (List.mem_map.mp this) fun z hz ez => ?_
      rw [← ez]
      exact hS j u hj e1 z hz
theorem sched_ok {rk : Int → Nat} : ∀ (d : Nat) (T : Tr) (i : Int), WS T rk → rk i < d → T i ≠ none → Turned T i (sched d T i).1 := by
 intro d
 induction d with
 | zero => intro T i _ h; omega
 | succ d ih =>
  intro T i W hd hi
  refine xo1_1 (Option.ne_none_iff_exists'.mp hi) fun ni h => ?_
  refine xo2_5 (seek_ok (i := i) (rk := rk) (sub := sched d) (fun T c W hc hn => ih T c W (by omega) hn) ni.queue T [] ni W h rfl) fun took rest b1 b2 b3 b4 b5 => ?_
  rw [List.nil_append] at b2
  rw [sched_eq h]
  dsimp only
  rw [b2]
  have hx : ∀ x ∈ took, T x.2 ≠ none ∧ x.2 ≠ i := fun x hx => by
   have := W.q _ _ h x (by rw [b1]; exact List.mem_append_left _ hx)
   exact ⟨this.1, fun w => by rw [w] at this; omega⟩
  obtain ⟨⟨ni', c1, c2, c3, c4, c5, c6⟩, c7, c8⟩ := spent_ok (rk := rk) (T := T) took _ _ b3 (fun x hx' => ⟨fun w => (hx x hx').1 ((b4 _ (hx x hx').2).none.mpr w), (hx x hx').2⟩)
  refine ⟨fun j => ?_, fun S hS hSi j hj => ?_⟩
  ·by_cases q : j = i
   ·subst q
    rw [h, c1]
    refine .inr ⟨_, _, rfl, rfl, c2, c3, c4, c5, ?_⟩
    rw [b1, List.map_append]
    exact c6
   ·exact (b4 j q).trans (c7 j q)
  ·have ji : j ≠ i := fun w => hj (w ▸ hSi)
   refine (c8 j ji fun w => ?_).trans (b5 S hS hSi j hj)
   refine xo1_2 (List.mem_map.mp w) fun x hx' e => ?_
   exact hj (e ▸ hS i ni hSi h x (by rw [b1]; exact List.mem_append_left _ hx'))
end
section
open PySem PySem.W PyProof.Rows
section
variable {g : Sig} {C : Nat → List AV → St → R AV} {E : Est} {k n : Nat} {h : Hp} {L : Lo} {A cl ql : Ad} {G : Hp} {Φ : Fo} {t : Nat} {s : St} {i : Int} {nd : Nd} {T : Tr}
theorem x_fin {Q : Pst Fl} {b f : Ss} {p : Pos} {k : Nat} (w : Wp (execs g C b ⟨L, h, n, k⟩) (fun x L h n k => Wp (execs g C f ⟨L, h, n, k⟩) (fun y L h n k => y = .next ∧ Q x L h n k) fun _ _ _ _ _ _ => False)
  (fun c cl L h n _ => Wp (execs g C f ⟨L, h, n, if cl = true then 1 else 2⟩) (fun y L h n _ => y = .next ∧ E c cl L h n k) fun _ _ _ _ _ _ => False)) : Wp (exec g C (.fin b f p) ⟨L, h, n, k⟩) Q E := by
 show Wp (finR k (execs g C b ⟨L, h, n, k⟩) fun s => execs g C f s) Q E
 cases q : execs g C b ⟨L, h, n, k⟩ with
 | ok x s =>
  rw [q] at w
  have w : Wp (execs g C f s) (fun y L h n k => y = .next ∧ Q x L h n k) fun _ _ _ _ _ _ => False := w
  unfold finR
  dsimp only
  cases q2 : execs g C f s with
  | ok y s' => rw [q2] at w; obtain ⟨rfl, w⟩ := w; exact w
  | ex c cl s' => rw [q2] at w; exact w.elim
  | bad => rw [q2] at w; exact w.elim
 | ex c cl s =>
  rw [q] at w
  have w : Wp (execs g C f { s with hd := if cl = true then 1 else 2 }) (fun y L h n _ => y = .next ∧ E c cl L h n k) fun _ _ _ _ _ _ => False := w
  unfold finR
  dsimp only
  cases q2 : execs g C f { s with hd := if cl = true then 1 else 2 } with
  | ok y s' => rw [q2] at w; obtain ⟨rfl, w⟩ := w; exact w
  | ex c cl s' => rw [q2] at w; exact w.elim
  | bad => rw [q2] at w; exact w.elim
 | bad => rw [q] at w; exact w.elim
theorem x_try {Q : Pst Fl} {b : Ss} {hs : Hs} {p : Pos} (w : Wp (execs g C b ⟨L, h, n, k⟩) Q fun c cl L h n k' => Wp (handle g C k hs c cl ⟨L, h, n, k'⟩) Q E) : Wp (exec g C (.try b hs p) ⟨L, h, n, k⟩) Q E := by
 show Wp (match execs g C b ⟨L, h, n, k⟩ with | .ok f s => R.ok f s | .ex c cl s' => handle g C k hs c cl s' | .bad => .bad) Q E
 cases q : execs g C b ⟨L, h, n, k⟩ with
 | ok x s => rw [q] at w; exact w
 | ex c cl s => rw [q] at w; exact w
 | bad => rw [q] at w; exact w
theorem h_hit {Q : Pst Fl} {c : Nat} {cl : Bool} {q : Pos} {b : Ss} {p : Pos} {r : Hs} {k k' : Nat} (hc : g.excs.contains c = true) (w : Wp (execs g C b ⟨L, h, n, if cl = true then 1 else 2⟩) (fun f L h n _ => Q f L h n k) fun c cl L h n _ => E c cl L h n k) : Wp (handle g C k (.cons c q b p r) c cl ⟨L, h, n, k'⟩) Q E := by
 have m := List.contains_iff_mem.mp hc
 show Wp (if c ∈ g.excs ∧ c ∈ g.excs then (if c = c then (execs g C b ⟨L, h, n, if cl then 1 else 2⟩).reHd k else _) else .bad) Q E
 rw [if_pos ⟨m, m⟩, if_pos rfl]
 cases q2 : execs g C b ⟨L, h, n, if cl = true then 1 else 2⟩ with
 | ok x s => rw [q2] at w; exact w
 | ex c cl s => rw [q2] at w; exact w
 | bad => rw [q2] at w; exact w
theorem h_miss {Q : Pst Fl} {c d : Nat} {cl : Bool} {q : Pos} {b : Ss} {p : Pos} {r : Hs} {k k' : Nat} (hc : g.excs.contains c = true) (hd : g.excs.contains d = true) (ne : c ≠ d) (w : Wp (handle g C k r c cl ⟨L, h, n, k'⟩) Q E) : Wp (handle g C k (.cons d q b p r) c cl ⟨L, h, n, k'⟩) Q E := by
 show Wp (if c ∈ g.excs ∧ d ∈ g.excs then (if c = d then _ else handle g C k r c cl ⟨L, h, n, k'⟩) else .bad) Q E
 rw [if_pos ⟨List.contains_iff_mem.mp hc, List.contains_iff_mem.mp hd⟩, if_neg ne]
 exact w
theorem h_nil {Q : Pst Fl} {c : Nat} {cl : Bool} {k k' : Nat} (e : E c cl L h n k') : Wp (handle g C k .nil c cl ⟨L, h, n, k'⟩) Q E := e
theorem k_is_none {Q : Pst Bool} (q : Q true L h n k) : Wp (cmpv g C .is .none .none ⟨L, h, n, k⟩) Q E := q
theorem k_is_int {Q : Pst Bool} {x : Int} (q : Q false L h n k) : Wp (cmpv g C .is (.int x) .none ⟨L, h, n, k⟩) Q E := q
structure F9 (A : Ad) (t : Nat) (i : Int) (pl : Nat) (v : AV) (L : Lo) : Prop where
 l20 : get? L 20 = some (.loc (A t i))
 l50 : get? L 50 = some (.loc pl)
 l49 : get? L 49 = some v
theorem F9.put {pl : Nat} {v : AV} (x : F9 A t i pl v L) {j : Nat} (w : AV) (h1 : j ≠ 20) (h2 : j ≠ 50) (h3 : j ≠ 49) : F9 A t i pl v (Mine.put L j w) :=
 ⟨by rw [get_put_ne _ _ h1.symm]; exact x.l20, by rw [get_put_ne _ _ h2.symm]; exact x.l50, by rw [get_put_ne _ _ h3.symm]; exact x.l49⟩
theorem F9.set {pl : Nat} {v : AV} (x : F9 A t i pl v L) (w : AV) : F9 A t i pl w (Mine.put L 49 w) :=
 ⟨by rw [get_put_ne _ _ (by decide)]; exact x.l20, by rw [get_put_ne _ _ (by decide)]; exact x.l50, get_put _ _ _⟩
theorem All2.get {α β : Type} {P : α → β → Prop} {as : List α} {bs : List β} (x : All2 P as bs) : ∀ {j : Nat} {a : α}, as[j]? = some a → ∃ b, bs[j]? = some b ∧ P a b := by
 induction x with
 | nil => intro j a e; simp at e
 | cons p _ ih =>
  intro j a e
  cases j with
  | zero => simp at e; subst e; exact ⟨_, rfl, p⟩
  | succ j => simpa using ih (by simpa using e)
theorem w9f (m : Nat) {pl : Nat} {v : AV} {Q : Pst Fl} (hk : k ≤ 1) {es : List Nat} {ps : List (Int × Int)} (hG : G pl = some (entsO es)) (hps : ∀ x ∈ ps, T x.2 ≠ none ∧ x.2 ≠ i) (hw : ∀ j nd, T j = some nd → 1 ≤ nd.w ∧ nd.w ≤ 256) {ni : Nd} (hi : T i = some ni) (hnq : ∀ x ∈ ni.queue, T x.2 ≠ none) (hlen : ps.length + ni.queue.length ≤ 1000)
  (FL : F9 A t i pl v L) (R : Rep A cl ql (setT Φ t T) G h n) (he : Ents A t G es ps) (hQ : ∀ L h n, F9 A t i pl v L → Rep A cl ql (setT Φ t (spent T i ps)) G h n → Q .next L h n k) :
  Wp (execs sg (callF sg (m + 4)) (match b9.at 3 with | .fin _ f _ => f | _ => .nil) ⟨L, h, n, k⟩) Q E := by
 have all : ∀ j, (∀ j', OLike (T j') (spent T i (ps.take j) j') ∨ j' = i) ∧ ∃ nj, spent T i (ps.take j) i = some nj ∧ nj.queue.length ≤ 1000 - (ps.length - (ps.take j).length) ∧ ∀ x ∈ nj.queue, T x.2 ≠ none := fun j => by
  obtain ⟨⟨nj, a1, -, -, -, -, a2⟩, a3, -⟩ := spent_ok (rk := fun _ => 0) (T := T) (ps.take j) T ni hi fun x hx => hps x (List.mem_of_mem_take hx)
  refine ⟨fun j' => ?_, nj, a1, ?_, fun x hx => ?_⟩
  ·by_cases q : j' = i
   ·exact .inr q
   ·exact .inl (a3 j' q)
  ·have := a2.length_eq
   simp only [List.length_map, List.length_append] at this
   have l2 : (ps.take j).length ≤ ps.length := by rw [List.length_take]; omega
   omega
  ·have := a2.mem_iff.mp (List.mem_map.mpr ⟨x, hx, rfl⟩)
   rcases List.mem_append.mp this with w | w
   ·refine xo1_2 (List.mem_map.mp w) fun z hz ez => ?_
    rw [← ez]; exact (hps z (List.mem_of_mem_take hz)).1
   ·refine xo1_2 (List.mem_map.mp w) fun z hz ez => ?_
    rw [← ez]; exact hnq z hz
 have l20 := FL.l20
 have l50 := FL.l50
 delta b9
 dsimp only [Ss.at]
 repeat walk_at "e"
 refine x_for ?_
 repeat walk_at "e"
 have xs_at : ∀ {h' : Hp} {n' : Nat} {T' : Tr}, Rep A cl ql (setT Φ t T') G h' n' → h' pl = some (entsO es) := fun R => R.old _ _ hG
 refine ⟨_, it_list (xs_at R), ?_⟩
 have lenE : es.length = ps.length := (ents_iff.mp he).len
 refine forN_wp (xs := es.map AV.loc) (fun j L h n k' => k' = k ∧ F9 A t i pl v L ∧ Rep A cl ql (setT Φ t (spent T i (ps.take j))) G h n)
  (fun j L h n k' w => ⟨at_list (xs_at w.2.2), w.1 ▸ hk⟩) (fun j x L h n k' hx w => ?_) (fun L h n k' w => ?_) 100000 0 (by simp; omega) (Nat.zero_le _) ⟨rfl, FL, R⟩
 ·refine xo0_3 w fun e0_ w1 w2 => ?_; clear w; obtain rfl := e0_
  obtain ⟨e, hy, rfl⟩ : ∃ e, es[j]? = some e ∧ x = .loc e := by
   rw [List.getElem?_map] at hx
   refine xo1_2 (Option.map_eq_some_iff.mp hx) fun y hy e => ?_
   exact ⟨y, hy, e.symm⟩
  obtain ⟨⟨lv, c⟩, hp, he'⟩ := (ents_iff.mp he).get hy
  have he := w2.old _ _ he'
  refine xo0_2 (hps (lv, c) (List.mem_of_getElem? hp)) fun z1 z2 => ?_
  refine xm_aeaaa (all j) fun al nj a1 a2 a3 => ?_
  have jl : j < ps.length := (List.getElem?_eq_some_iff.mp hp).1
  have lt : (ps.take j).length = j := by rw [List.length_take]; omega
  have oc : OLike (T c) (spent T i (ps.take j) c) := (al c).resolve_right z2
  refine xo1_1 (Option.ne_none_iff_exists'.mp z1) fun nc0 hc0 => ?_
  refine xo1_2 (oc.get hc0) fun nc hc lk => ?_
  have wb := hw _ _ hc0
  have w256 : nc.w ≠ 0 ∧ nc.w.natAbs < 1073741824 := by have := lk.w; omega
  have FL2 := (w1.put (j := 45) (.int lv) (by decide) (by decide) (by decide)).put (j := 36) (.loc (A t c)) (by decide) (by decide) (by decide)
  refine t_tup he hk ?_
  have l20 := FL2.l20
  have l45 : get? (put (put L 45 (.int lv)) 36 (.loc (A t c))) 45 = some (.int lv) := by rw [get_put_ne _ _ (by decide)]; exact get_put _ _ _
  have l36 : get? (put (put L 45 (.int lv)) 36 (.loc (A t c))) 36 = some (.loc (A t c)) := get_put _ _ _
  repeat walk_at "e"
  refine w2.setLw a1 lv fun h1 R1 => ?_
  have c1 : setN (spent T i (ps.take j)) i { nj with lw := lv } c = some nc := (setN_ne _ _ z2).trans hc
  repeat walk_at "e"
  repeat walk_at "e"
  refine R1.getDf c1 ?_
  repeat walk_at "e"
  refine R1.getW (m + 3) c1 ?_
  refine o_div w256 ?_
  refine ⟨_, rfl, ?_⟩
  have FL3 := FL2.put (j := 45) (.int (lv + Int.fdiv (256 + nc.df) nc.w)) (by decide) (by decide) (by decide)
  have m20 := FL3.l20
  have m45 : get? (put (put (put L 45 (.int lv)) 36 (.loc (A t c))) 45 (.int (lv + Int.fdiv (256 + nc.df) nc.w))) 45 = some (.int (lv + Int.fdiv (256 + nc.df) nc.w)) := get_put _ _ _
  have m36 : get? (put (put (put L 45 (.int lv)) 36 (.loc (A t c))) 45 (.int (lv + Int.fdiv (256 + nc.df) nc.w))) 36 = some (.loc (A t c)) := by rw [get_put_ne _ _ (by decide)]; exact l36
  repeat walk_at "e"
  refine R1.getDf c1 ?_
  repeat walk_at "e"
  refine R1.getW (m + 3) c1 ?_
  refine o_mod w256.1 ?_
  repeat walk_at "e"
  refine R1.setDf c1 _ fun h2 R2 => ?_
  have i2 : setN (setN (spent T i (ps.take j)) i { nj with lw := lv }) c { nc with df := Int.fmod (256 + nc.df) nc.w } i = some { nj with lw := lv } := (setN_ne _ _ z2.symm).trans (setN_same ..)
  repeat walk_at "e"
  refine R2.getQ i2 ?_
  repeat walk_at "e"
  refine ⟨Nat.le_of_ble_eq_true rfl, ?_⟩
  repeat walk_at "e"
  have R3 := R2.junk (.tup [.int (lv + Int.fdiv (256 + nc.df) nc.w), .loc (A t c)])
  refine xo1_2 (R3.queue _ _ _ (atT i2)) fun eq q1 q2 => ?_
  have dd : ∀ {j' : Int}, T j' ≠ none → setN (setN (spent T i (ps.take j)) i { nj with lw := lv }) c { nc with df := Int.fmod (256 + nc.df) nc.w } j' ≠ none := fun {j'} hj => setN_dom (by
   by_cases q : j' = i
   ·rw [q, setN_same]; nofun
   ·exact setN_dom fun w => hj (((al j').resolve_right q).none.mpr w))
  refine c_fn rfl rfl ?_
  refine R3.push (m + 1) q1 q2 (lv := lv + Int.fdiv (256 + nc.df) nc.w) (i := c) ?p1 ?p2 ?p3 ?p4 ?p5
  case p1 => exact fun x hx => dd (a3 x hx)
  case p2 => exact upd_same ..
  case p3 => exact dd z1
  case p4 => show nj.queue.length ≤ 1000; omega
  intro es' e3
  refine ⟨trivial, ?_⟩
  have R4 := R3.upQueue i2 e3
  repeat walk_at "e"
  have eT : setN (setN (setN (spent T i (ps.take j)) i { nj with lw := lv }) c { nc with df := Int.fmod (256 + nc.df) nc.w }) i { { nj with lw := lv } with queue := qpush nj.queue (lv + Int.fdiv (256 + nc.df) nc.w, c) } = spent T i (ps.take (j + 1)) := by
   rw [take_succ' hp]
   unfold spent at a1 hc ⊢
   rw [List.foldl_append]
   show _ = turn1 _ i (lv, c)
   rw [turn1_eq a1 hc]
   funext y
   unfold setN
   by_cases q : y = i
   ·simp only [q, if_true]
   ·by_cases q' : y = c <;> simp [q, q']
  rw [eT] at R4
  exact ⟨rfl, FL3, R4⟩
 ·refine xo0_3 w fun e0_ w1 w2 => ?_; clear w; obtain rfl := e0_
  repeat walk_at "e"
  rw [List.length_map, lenE, List.take_length] at w2
  exact hQ _ _ _ w1 w2
theorem Rep.know (R : Rep A cl ql Φ G h n) {e : Nat} {x : List AV} (he : h e = some (.tup x)) : Rep A cl ql Φ (upd G e (.tup x)) h n := by
 refine ⟨R.node, R.kids, R.queue, R.aa, R.cc, R.qq, R.cq, fun l o q => ?_, fun l o q u j hj => ?_, R.lt⟩
 ·by_cases z : l = e
  ·subst z; rw [upd_same] at q; cases q; exact he
  ·rw [upd_ne _ _ z] at q; exact R.old _ _ q
 ·by_cases z : l = e
  ·subst z
   refine xo1_1 (Option.ne_none_iff_exists'.mp hj) fun nd hd => ?_
   refine ⟨fun w => ?_, fun w => ?_, fun w => ?_⟩
   ·have := R.node _ _ _ hd; rw [w, he] at this; exact absurd this nofun
   ·have := R.kids _ _ _ hd; rw [w, he] at this; exact absurd this nofun
   ·obtain ⟨es, e1, _⟩ := R.queue _ _ _ hd; rw [w, he] at e1; exact absurd e1 nofun
  ·rw [upd_ne _ _ z] at q; exact R.free _ _ q _ _ hj
noncomputable def Know (G G' : Hp) : Prop := ∀ l o, G l = some o → G' l = some o
theorem Rep.know_le (R : Rep A cl ql Φ G h n) {e : Nat} {x : List AV} (he : h e = some (.tup x)) : Know G (upd G e (.tup x)) := fun l o q => by
 by_cases z : l = e
 ·subst z; rw [upd_same, ← he]; exact R.old _ _ q
 ·rw [upd_ne _ _ z]; exact q
theorem Ents.know {G' : Hp} {es : List Nat} {q : List (Int × Int)} (k : Know G G') (x : Ents A t G es q) : Ents A t G' es q := x.keep fun e y h => k e _ h
theorem Ents.app {es es' : List Nat} {q q' : List (Int × Int)} (x : Ents A t h es q) (y : Ents A t h es' q') : Ents A t h (es ++ es') (q ++ q') := ents_iff.mpr ((ents_iff.mp x).app (ents_iff.mp y))
noncomputable def TurnOk (sub : Nat → List AV → St → R AV) (sd : Tr → Int → Tr × Option Int) (c : Int) (rk : Int → Nat) : Prop :=
 ∀ {A cl ql : Ad} {Φ : Fo} {G h : Hp} {n t : Nat} {T : Tr} {L : Lo} {nc : Nd} {Q : Pst AV} {E : Est}, Rep A cl ql (setT Φ t T) G h n → WS T rk → T c = some nc → nc.act = false →
  (∀ x h' n', (sd T c).2 = some x → Rep A cl ql (setT Φ t (sd T c).1) G h' n' → Q (.int x) L h' n' 0) → (∀ h' n', (sd T c).2 = none → Rep A cl ql (setT Φ t (sd T c).1) G h' n' → E 52 true L h' n' 0) → Wp (sub 9 [.loc (A t c)] ⟨L, h, n, 0⟩) Q E
theorem w9 (m : Nat) {sd : Tr → Int → Tr × Option Int} {rk : Int → Nat} {pl : Nat} {Q : Pst Fl} (hsub : ∀ c, rk c < rk i → TurnOk (callF sg (m + 4)) sd c rk) (hsd : ∀ T c, WS T rk → rk c < rk i → T c ≠ none → Turned T c (sd T c).1) :
  ∀ (q : List (Int × Int)) (fuel : Nat) (T : Tr) (ni : Nd) (acc : List (Int × Int)) (es : List Nat) (G : Hp) (L : Lo) (h : Hp) (n : Nat), q.length < fuel → q.length + acc.length ≤ 900 → T i = some ni → ni.queue = q → WS T rk → G pl = some (entsO es) → Ents A t G es acc → F9 A t i pl .none L → Rep A cl ql (setT Φ t T) G h n →
   (∀ L h n x G' es', (seek sd i q T acc).2.2 = some x → F9 A t i pl (.int x) L → Know (drop G pl) (drop G' pl) → G' pl = some (entsO es') → Ents A t G' es' (seek sd i q T acc).2.1 → Rep A cl ql (setT Φ t (seek sd i q T acc).1) G' h n → Q .next L h n 0) →
   (∀ L h n G' es', (seek sd i q T acc).2.2 = none → F9 A t i pl .none L → Know (drop G pl) (drop G' pl) → G' pl = some (entsO es') → Ents A t G' es' (seek sd i q T acc).2.1 → Rep A cl ql (setT Φ t (seek sd i q T acc).1) G' h n → E 52 true L h n 0) →
   Wp (whileN (fun s => evalT sg (callF sg (m + 4)) ((b9.at 3).bdy.at 0).tst s) (fun s => execs sg (callF sg (m + 4)) ((b9.at 3).bdy.at 0).bdy s) fuel ⟨L, h, n, 0⟩) Q E := by
 intro q
 induction q with
 | nil =>
  intro fuel T ni acc es G L h n hf hlen hi hq W hG he FL R hQ hE
  obtain ⟨f, rfl⟩ : ∃ f, fuel = f + 1 := ⟨fuel - 1, by simp at hf; omega⟩
  refine xo1_2 (R.queue _ _ _ (atT hi)) fun qe q1 q2 => ?_
  rw [hq] at q2
  obtain rfl : qe = [] := by cases qe with | nil => rfl | cons _ _ => exact q2.elim
  refine while_wp (e_test ?_)
  have l20 := FL.l20
  have l49 := FL.l49
  delta b9
  dsimp only [Ss.at, S.tst, S.bdy]
  repeat walk_at "e"
  refine k_is_none ?_
  repeat walk_at "e"
  refine R.getQ hi ?_
  repeat walk_at "e"
  exact c_fn rfl rfl (f2_0 (m + 3) q1 (hE _ _ _ G es rfl FL (fun _ _ e => e) hG he R))
 | cons x q ih =>
  intro fuel T ni acc es G L h n hf hlen hi hq W hG he FL R hQ hE
  obtain ⟨f, rfl⟩ : ∃ f, fuel = f + 1 := ⟨fuel - 1, by simp at hf; omega⟩
  refine xo1_2 (R.queue _ _ _ (atT hi)) fun qe q1 q2 => ?_
  rw [hq] at q2
  obtain ⟨lv, c⟩ := x
  cases qe with
  | nil => exact q2.elim
  | cons e qe =>
   revert q2; refine fun z_ => xo0_2 z_ fun q2 q3 => ?_; clear z_
   obtain ⟨z1, z2⟩ := W.q _ _ hi (lv, c) (by rw [hq]; exact .head _)
   replace z2 : rk c < rk i := z2
   have ne : c ≠ i := fun w => by rw [w] at z2; omega
   refine xo1_1 (Option.ne_none_iff_exists'.mp z1) fun nc hc => ?_
   have R1 := R.upQueue hi q3
   have q4 : upd h (ql t i) (entsO qe) e = some (.tup [.int lv, .loc (A t c)]) := by
    rw [upd_ne _ _ fun w => by rw [w, q1] at q2; cases q2]; exact q2
   have R2 := R1.know q4
   have kn := R1.know_le q4
   have R3 := R2.put (l := pl) (kn _ _ hG) rfl (entsO (es ++ [e]))
   have epl : e ≠ pl := fun w => by have := R1.old _ _ hG; rw [← w, q4] at this; exact absurd this nofun
   have lenE : es.length = acc.length := (ents_iff.mp he).len
   obtain ⟨G3, hG3⟩ : ∃ G3, G3 = upd (upd G e (.tup [.int lv, .loc (A t c)])) pl (entsO (es ++ [e])) := ⟨_, rfl⟩
   have g1 : Know (drop G pl) (drop G3 pl) := fun l o w => by
    refine xo0_2 (drop_some w) fun w1 w2 => ?_
    unfold drop
    rw [if_neg w1, hG3, upd_ne _ _ w1]; exact kn _ _ w2
   have g2 : G3 pl = some (entsO (es ++ [e])) := by rw [hG3]; exact upd_same ..
   have g3 : Ents A t G3 (es ++ [e]) (acc ++ [(lv, c)]) := by
    refine Ents.app (he.keep fun b y w => ?_) ⟨?_, trivial⟩
    ·rw [hG3, upd_ne _ _ fun z => by rw [z, hG] at w; cases w]; exact kn _ _ w
    ·rw [hG3, upd_ne _ _ epl]; exact upd_same ..
   rw [← hG3] at R3
   have lst : entsO (es ++ [e]) = .list (es.map .loc ++ [.loc e]) := by simp
   refine while_wp (e_test ?_)
   have l20 := FL.l20
   have l49 := FL.l49
   have l50 := FL.l50
   have FL1 := FL.put (j := 51) (.loc e) (by decide) (by decide) (by decide)
   have m20 := FL1.l20
   have m50 := FL1.l50
   have m51 : get? (Mine.put L 51 (.loc e)) 51 = some (.loc e) := get_put _ _ _
   delta b9
   dsimp only [Ss.at, S.tst, S.bdy]
   repeat walk_at "e"
   refine k_is_none ?_
   repeat walk_at "e"
   refine R.getQ hi ?_
   repeat walk_at "e"
   refine c_fn rfl rfl (.eq (f2 (m + 3) q1) ?_)
   repeat walk_at "e"
   refine ⟨_, m_append (R2.old _ _ (kn _ _ hG)), ?_⟩
   repeat walk_at "e"
   refine c_append (R2.old _ _ (kn _ _ hG)) (by simp; omega) ⟨trivial, ?_⟩
   rw [← lst]
   have q5 : upd (upd h (ql t i) (entsO qe)) pl (entsO (es ++ [e])) e = some (.tup [.int lv, .loc (A t c)]) := by rw [upd_ne _ _ epl]; exact q4
   repeat walk_at "e"
   refine ⟨_, _, _, rfl, q5, Nat.zero_le _, ?_⟩
   have FL2 := (FL1.put (j := 45) (.int lv) (by decide) (by decide) (by decide)).put (j := 36) (.loc (A t c)) (by decide) (by decide) (by decide)
   have p20 := FL2.l20
   have p36 : get? (Mine.put (Mine.put (Mine.put L 51 (.loc e)) 45 (.int lv)) 36 (.loc (A t c))) 36 = some (.loc (A t c)) := get_put _ _ _
   have c1 : setN T i { ni with queue := q } c = some nc := (setN_ne _ _ ne).trans hc
   repeat walk_at "e"
   refine R3.getAct c1 ?_
   repeat walk_at "e"
   refine it_s (fun ha => ?_) fun ha => ?_
   ·repeat walk_at "e"
    refine R3.getId c1 ?_
    have sk := seek_act (sub := sd) (x := (lv, c)) (r := q) (acc := acc) hi hc ha
    have FL3 := FL2.set (.int c)
    have n49 := FL3.l49
    repeat walk_at "e"
    obtain ⟨f', rfl⟩ : ∃ f', f = f' + 1 := ⟨f - 1, by simp at hf; omega⟩
    refine while_wp (e_test ?_)
    repeat walk_at "e"
    refine k_is_int ?_
    repeat walk_at "e"
    exact hQ _ _ _ c G3 _ (by rw [sk]) FL3 g1 g2 (by rw [sk]; exact g3) (by rw [sk]; exact R3)
   ·have sk := seek_sub (sub := sd) (x := (lv, c)) (r := q) (acc := acc) hi hc ha
    have lq : q.length ≤ 900 := by simp at hlen; omega
    have W1 : WS (setN T i { ni with queue := q }) rk := W.alike i (fun j hj => by rw [setN_ne _ _ hj]; exact .refl _) hi (setN_same ..) rfl lq fun y hy => W.q _ _ hi y (by rw [hq]; exact .tail _ hy)
    have tn := hsd _ c W1 z2 (by rw [c1]; nofun)
    repeat walk_at "e"
    refine x_try ?_
    repeat walk_at "e"
    refine ⟨_, R3.meth c1 rfl rfl, ?_⟩
    repeat walk_at "e"
    refine c_fn rfl rfl (hsub c z2 R3 W1 c1 ha (fun x h' n' hx R4 => ?_) fun h' n' hx R4 => ?_)
    ·have FL3 := FL2.set (.int x)
     have n49 := FL3.l49
     have sk' : seek sd i ((lv, c) :: q) T acc = ((sd (setN T i { ni with queue := q }) c).1, acc ++ [(lv, c)], some x) := by
      rw [sk]
      cases z : sd (setN T i { ni with queue := q }) c with
      | mk T2 o => rw [z] at hx; dsimp only at hx; subst hx; rfl
     repeat walk_at "e"
     obtain ⟨f', rfl⟩ : ∃ f', f = f' + 1 := ⟨f - 1, by simp at hf; omega⟩
     refine while_wp (e_test ?_)
     repeat walk_at "e"
     refine k_is_int ?_
     repeat walk_at "e"
     exact hQ _ _ _ x G3 _ (by rw [sk']) FL3 g1 g2 (by rw [sk']; exact g3) (by rw [sk']; exact R4)
    ·have sk' : seek sd i ((lv, c) :: q) T acc = seek sd i q (sd (setN T i { ni with queue := q }) c).1 (acc ++ [(lv, c)]) := by
      rw [sk]
      cases z : sd (setN T i { ni with queue := q }) c with
      | mk T2 o => rw [z] at hx; dsimp only at hx; subst hx; rfl
     refine h_hit rfl ?_
     repeat walk_at "e"
     have i4 : (sd (setN T i { ni with queue := q }) c).1 i = some { ni with queue := q } := by
      rw [tn.frame (fun j => rk j ≤ rk c) (fun j nd hj e' y hy => by have := (W1.q _ _ e' y hy).2; omega) (Nat.le_refl _) i (by omega)]
      exact setN_same ..
     refine ih f _ _ (acc ++ [(lv, c)]) (es ++ [e]) G3 _ _ _ (by simp at hf; omega) (by simp at hlen ⊢; omega) i4 rfl (W1.all tn.like) g2 g3 FL2 R4 (fun L h n x G' es' b1 b2 b3 b4 b5 b6 => ?_) fun L h n G' es' b1 b2 b3 b4 b5 b6 => ?_
     ·exact hQ L h n x G' es' (by rw [sk']; exact b1) b2 (fun l o w => b3 _ _ (g1 _ _ w)) b4 (by rw [sk']; exact b5) (by rw [sk']; exact b6)
     ·exact hE L h n G' es' (by rw [sk']; exact b1) b2 (fun l o w => b3 _ _ (g1 _ _ w)) b4 (by rw [sk']; exact b5) (by rw [sk']; exact b6)
theorem f9 (m : Nat) {rk : Int → Nat} : ∀ (d : Nat) (i : Int), rk i < d → TurnOk (callF sg (m + 4 + d)) (sched d) i rk := by
 intro d
 induction d with
 | zero => intro i h; omega
 | succ d ih =>
  intro i hd A cl ql Φ G h n t T L ni Q E R W hi ha hQ hE
  have hsub : ∀ c, rk c < rk i → TurnOk (callF sg (m + d + 4)) (sched d) c rk := fun c hc => by
   have e : m + 4 + d = m + d + 4 := by omega
   rw [← e]
   exact @ih c (by omega)
  rw [show m + 4 + (d + 1) = m + d + 4 + 1 by omega]
  refine xo2_5 (seek_ok (i := i) (rk := rk) (sub := sched d) (fun T c W hc hn => sched_ok d T c W (by omega) hn) ni.queue T [] ni W hi rfl) fun took rest b1 b2 b3 b4 b5 => ?_
  rw [List.nil_append] at b2
  have sq := sched_eq (d := d) hi
  have hx : ∀ x ∈ took, T x.2 ≠ none ∧ x.2 ≠ i := fun x hx => by
   have := W.q _ _ hi x (by rw [b1]; exact List.mem_append_left _ hx)
   exact ⟨this.1, fun w => by rw [w] at this; omega⟩
  have hr : ∀ x ∈ rest, T x.2 ≠ none ∧ x.2 ≠ i := fun x hx => by
   have := W.q _ _ hi x (by rw [b1]; exact List.mem_append_right _ hx)
   exact ⟨this.1, fun w => by rw [w] at this; omega⟩
  have up : ∀ {j : Int}, T j ≠ none ∧ j ≠ i → (seek (sched d) i ni.queue T []).1 j ≠ none := fun {j} hj w => hj.1 ((b4 j hj.2).none.mpr w)
  have ln := W.len _ _ hi
  have ln2 : took.length + rest.length ≤ 900 := by rw [b1, List.length_append] at ln; exact ln
  have ww : ∀ j nd, (seek (sched d) i ni.queue T []).1 j = some nd → 1 ≤ nd.w ∧ nd.w ≤ 256 := fun j nd e => by
   by_cases q : j = i
   ·subst q; rw [b3] at e; cases e; exact W.w _ ni hi
   ·refine xo1_2 ((b4 j q).back e) fun u e1 e2 => ?_
    rw [e2.w]; exact W.w _ _ e1
  refine c_in rfl ?_
  show Wp (execs sg _ b9 ⟨[(20, .loc (A t i))], h, n, 0⟩) _ _
  have Wf : ∀ {k : Nat} {v : AV} {L : Lo} {h : Hp} {n : Nat} {G' : Hp} {es : List Nat} {Q : Pst Fl} {E : Est} {pl : Nat}, k ≤ 1 → G' pl = some (entsO es) → Ents A t G' es (seek (sched d) i ni.queue T []).2.1 → F9 A t i pl v L → Rep A cl ql (setT Φ t (seek (sched d) i ni.queue T []).1) G' h n →
    (∀ L h n, F9 A t i pl v L → Rep A cl ql (setT Φ t (sched (d + 1) T i).1) G' h n → Q .next L h n k) → Wp (execs sg (callF sg (m + d + 4)) (match b9.at 3 with | .fin _ f _ => f | _ => .nil) ⟨L, h, n, k⟩) Q E := fun hk hG he FL R hQ => by
   rw [sq] at hQ
   rw [b2] at he hQ
   exact w9f (m + d) hk hG (fun x h => ⟨up (hx x h), (hx x h).2⟩) ww b3 (fun x h => up (hr x h)) (by show took.length + rest.length ≤ 1000; omega) FL R he hQ
  delta b9
  repeat walk_at "e"
  refine R.getAct hi ?_
  repeat walk_at "e"
  refine ⟨by rw [ha]; rfl, ?_⟩
  repeat walk_at "e"
  refine ⟨Nat.le_of_ble_eq_true rfl, ?_⟩
  have R1 := R.new (.list [])
  have gn : ∀ l o, G l = some o → l ≠ n := fun l o e w => by rw [w, R.gfresh (Nat.le_refl _)] at e; exact nsE e
  have back : ∀ {G' : Hp}, Know (drop (upd G n (.list [])) n) (drop G' n) → Know G G' := fun k l o e => by
   have z := gn _ _ e
   have : drop (upd G n (.list [])) n l = some o := by unfold drop; rw [if_neg z, upd_ne _ _ z]; exact e
   exact (drop_some (k _ _ this)).2
  repeat walk_at "e"
  refine x_fin ?_
  repeat walk_at "e"
  refine x_whl ?_
  refine w9 (i := i) (rk := rk) (sd := sched d) (m + d) hsub (fun T c W hc hn => sched_ok d T c W (by omega) hn) ni.queue 100000 T ni [] [] (upd G n (.list [])) _ _ _ (by omega) (by simpa using ln) hi rfl W (upd_same ..) trivial ⟨rfl, rfl, rfl⟩ R1 (fun L' h' n' x G' es' c1 c2 c3 c4 c5 c6 => ?_) fun L' h' n' G' es' c1 c2 c3 c4 c5 c6 => ?_
  ·refine go_next (xs_nil ?_)
   refine Wf (Nat.zero_le _) c4 c5 c2 c6 fun L h n FL R2 => ⟨rfl, ?_⟩
   have l49 := FL.l49
   repeat walk_at "e"
   exact hQ x _ _ (by rw [sq]; exact c1) (R2.sub (back c3))
  ·refine Wf (k := 1) (Nat.le_refl _) c4 c5 c2 c6 fun L h n FL R2 => ⟨rfl, ?_⟩
   exact hE _ _ (by rw [sq]; exact c1) (R2.sub (back c3))
end
end
section
open PySem PySem.W PyProof.Rows
noncomputable def emp : Tr := fun _ => none
abbrev root0 : Nd := { nd0 1 with act := false }
abbrev tatt (A : Ad) (t d : Nat) (mx : Int) : Lo := [(70, .loc (A t 0)), (71, .loc d), (76, .int mx)]
structure TR (A : Ad) (t a d : Nat) (mx : Int) (es : List (AV × AV)) (T : Tr) (G : Hp) : Prop where
 obj : G a = some (.inst 68 (tatt A t d mx))
 dict : G d = some (.dict es)
 ent : ∀ i, dget? es (.int i) = (T i).map fun _ => AV.loc (A t i)
 len : es.length ≤ 900
section
variable {C : Nat → List AV → St → R AV} {E : Est} {k n : Nat} {h : Hp} {L : Lo} {a d : Nat} {A cl ql : Ad} {G : Hp} {Φ : Fo} {t : Nat} {i x p : Int} {nd : Nd} {T : Tr} {mx : Int} {es : List (AV × AV)} {Q : Pst AV}
theorem TR.at_ (X : TR A t a d mx es T G) (e : T i ≠ none) : dget? es (.int i) = some (.loc (A t i)) := by
 rw [X.ent]; cases q : T i with
 | none => exact (e q).elim
 | some y => rfl
theorem TR.no (X : TR A t a d mx es T G) (e : T i = none) : dget? es (.int i) = none := by rw [X.ent, e]; rfl
theorem TR.like {T' : Tr} (X : TR A t a d mx es T G) (e : ∀ j, T j = none ↔ T' j = none) : TR A t a d mx es T' G :=
 ⟨X.obj, X.dict, fun i => by
  rw [X.ent]
  cases q : T i with
  | none => rw [(e i).mp q]
  | some y =>
   cases q' : T' i with
   | none => rw [(e i).mpr q'] at q; exact nsE q
   | some z => rfl, X.len⟩
theorem getT (R : Rep A cl ql Φ G h n) (X : TR A t a d mx es T G) {j : Nat} {v : AV} (hm : sg.me 68 j = .data) (hx : get? (tatt A t d mx) j = some v) (hp : v.plain = true) (q : Q v L h n k) : Wp (getA sg C (.loc a) j ⟨L, h, n, k⟩) Q E :=
 a_get (R.old _ _ X.obj) hm hx hp q
theorem methT (R : Rep A cl ql Φ G h n) (X : TR A t a d mx es T G) {m f : Nat} (hm : sg.me 68 m = .fn f) (hx : get? (tatt A t d mx) m = none) : methodOf sg (.loc a) m ⟨L, h, n, k⟩ = some (.fn f) := m_inst (R.old _ _ X.obj) hm hx
theorem c_tree (m : Nat) (R : Rep A cl ql (setT Φ t emp) G h n) (hk : k ≤ 1)
  (hQ : ∀ cl' ql' h' n' d, n < n' → n < d → Rep (updA A t 0 (n + 1)) cl' ql' (setT Φ t (setN emp 0 root0)) (upd (upd G n (.inst 68 (tatt (updA A t 0 (n + 1)) t d 1000))) d (.dict [(.int 0, .loc (n + 1))])) h' n' → Q (.loc n) L h' n' k) :
  Wp (callV sg (callF sg (m + 4)) (.gl 68) [] [] ⟨L, h, n, k⟩) Q E := by
 show Wp ((callFn sg (callF sg (m + 4)) 18 [.loc n] [] ⟨L, upd h n (.inst 68 []), n + 1, k⟩).bnd fun r s' => if r = .none then Mine.R.ok (.loc n) s' else .bad) Q E
 refine .bnd (Wp.imp (Q := fun r L h' n' k' => r = .none ∧ Q (.loc n) L h' n' k') ?_ fun r _ _ _ _ w => by rw [w.1]; exact w.2)
 refine c_fn rfl rfl (c_in rfl ?_)
 show Wp (execs sg _ b18 ⟨[(20, .loc n), (69, .int 1000)], upd h n (.inst 68 []), n + 1, k⟩) _ _
 delta b18
 have R1 := R.new (.inst 68 [])
 repeat walk_at "e"
 refine c_streamK (m + 1) (i := 0) (w := 1) R1 (by rw [setT_same]; exact ⟨rfl, fun j nd e => nomatch e⟩) hk (fun _ cl' ql' h1 n1 ln R2 => ?_) fun w => (w (by decide)).elim
 rw [setT_setT, setT_same] at R2
 repeat walk_at "e"
 refine a_set (R2.old _ _ (upd_same ..)) rfl (Nat.le_of_ble_eq_true rfl) ?_
 have R3 := R2.put (upd_same ..) rfl (.inst 68 [(70, .loc (n + 1))])
 rw [upd_upd] at R3
 repeat walk_at "e"
 refine a_get (x := .loc (n + 1)) (upd_same ..) rfl rfl rfl ?_
 have eA : updA A t 0 (n + 1) t 0 = n + 1 := updA_same ..
 have N := R3.node _ _ _ (atT (setN_same ..))
 rw [eA] at N
 refine a_set N rfl (Nat.le_of_ble_eq_true rfl) ?_
 have R4 := setT_put ▸ R3.updNode (nd' := root0) (atT (setN_same ..)) rfl rfl
 rw [eA, setN_setN] at R4
 repeat walk_at "e"
 refine e_dct1 ?_
 repeat walk_at "e"
 refine a_get (x := .loc (n + 1)) (R4.old _ _ (upd_same ..)) rfl rfl rfl ?_
 refine ⟨⟨_, rfl⟩, ?_⟩
 have R5 := R4.new (.dict [(.int 0, .loc (n + 1))])
 have ne : n ≠ n1 := by omega
 repeat walk_at "e"
 refine a_set (R5.old _ _ ((upd_ne _ _ ne).trans (upd_same ..))) rfl (Nat.le_of_ble_eq_true rfl) ?_
 have R6 := R5.put (l := n) ((upd_ne _ _ ne).trans (upd_same ..)) rfl (.inst 68 [(70, .loc (n + 1)), (71, .loc n1)])
 repeat walk_at "e"
 refine bi_int ?_
 repeat walk_at "e"
 refine a_set (upd_same ..) rfl (Nat.le_of_ble_eq_true rfl) ?_
 have R7 := R6.put (l := n) (upd_same ..) rfl (.inst 68 (tatt (updA A t 0 (n + 1)) t n1 1000))
 have eI : tatt (updA A t 0 (n + 1)) t n1 1000 = [(70, .loc (n + 1)), (71, .loc n1), (76, .int 1000)] := by unfold tatt; rw [eA]
 rw [eI] at R7
 repeat walk_at "e"
 refine ⟨rfl, hQ _ _ _ _ n1 (by omega) (by omega) (R7.sub fun l o e => ?_)⟩
 rw [eI] at e
 by_cases q1 : l = n1
 ·rw [q1, upd_same] at e
  rw [q1, upd_ne _ _ ne.symm, upd_ne _ _ ne.symm, upd_same]; exact e
 ·rw [upd_ne _ _ q1] at e
  by_cases q2 : l = n
  ·rw [q2, upd_same] at e ⊢; exact e
  ·rw [upd_ne _ _ q2] at e ⊢
   rw [upd_ne _ _ q2, upd_ne _ _ q1, upd_ne _ _ q2]; exact e
theorem f24 (m : Nat) (R : Rep A cl ql (setT Φ t T) G h n) (X : TR A t a d mx es T G) (h0 : 0 < x ∧ x < 1000000000) (hQ : ∀ nd, T x = some nd → ∀ h', Rep A cl ql (setT Φ t (setN T x { nd with act := false })) G h' n → Q .none L h' n k) (hE : T x = none → k = 0 ∧ E 15 false L h n 0) : Wp (callF sg (m + 1) 24 [.loc a, .int x] ⟨L, h, n, k⟩) Q E := by
 refine c_in rfl ?_
 show Wp (execs sg _ b24 ⟨[(20, .loc a), (21, .int x)], h, n, k⟩) _ _
 delta b24
 repeat walk_at "e"
 refine it_f (decide_eq_false (by omega)) ?_
 repeat walk_at "e"
 refine x_try ?_
 repeat walk_at "e"
 refine getT R X rfl rfl rfl ?_
 repeat walk_at "e"
 cases q : T x with
 | none =>
  refine xo0_2 (hE q) fun e0_ e => ?_; obtain rfl := e0_
  refine i_dict0 (R.old _ _ X.dict) (X.no q) ?_
  refine h_hit rfl ?_
  repeat walk_at "e"
  refine o_pct ⟨by decide, by omega, h0.2⟩ ?_
  exact ⟨Nat.le_refl _, e⟩
 | some nd =>
  refine i_dict (R.old _ _ X.dict) (X.at_ (by rw [q]; nofun)) ?_
  refine R.setAct q false fun h' R' => ?_
  repeat walk_at "e"
  exact hQ nd q h' R'
theorem f25 (m : Nat) (R : Rep A cl ql (setT Φ t T) G h n) (X : TR A t a d mx es T G) (h0 : 0 < x ∧ x < 1000000000) (hQ : ∀ nd, T x = some nd → ∀ h', Rep A cl ql (setT Φ t (setN T x { nd with act := true })) G h' n → Q .none L h' n k) (hE : T x = none → k = 0 ∧ E 15 false L h n 0) : Wp (callF sg (m + 1) 25 [.loc a, .int x] ⟨L, h, n, k⟩) Q E := by
 refine c_in rfl ?_
 show Wp (execs sg _ b25 ⟨[(20, .loc a), (21, .int x)], h, n, k⟩) _ _
 delta b25
 repeat walk_at "e"
 refine it_f (decide_eq_false (by omega)) ?_
 repeat walk_at "e"
 refine x_try ?_
 repeat walk_at "e"
 refine getT R X rfl rfl rfl ?_
 repeat walk_at "e"
 cases q : T x with
 | none =>
  refine xo0_2 (hE q) fun e0_ e => ?_; obtain rfl := e0_
  refine i_dict0 (R.old _ _ X.dict) (X.no q) ?_
  refine h_hit rfl ?_
  repeat walk_at "e"
  refine o_pct ⟨by decide, by omega, h0.2⟩ ?_
  exact ⟨Nat.le_refl _, e⟩
 | some nd =>
  refine i_dict (R.old _ _ X.dict) (X.at_ (by rw [q]; nofun)) ?_
  refine R.setAct q true fun h' R' => ?_
  repeat walk_at "e"
  exact hQ nd q h' R'
theorem f19 (m : Nat) (R : Rep A cl ql Φ G h n) (X : TR A t a d mx es T G) (e : T p ≠ none) (q : Q (.loc (A t p)) L h n k) : Wp (callF sg (m + 1) 19 [.loc a, .int p] ⟨L, h, n, k⟩) Q E := by
 refine c_in rfl ?_
 show Wp (execs sg _ b19 ⟨[(20, .loc a), (77, .int p)], h, n, k⟩) _ _
 delta b19
 repeat walk_at "e"
 refine x_try ?_
 repeat walk_at "e"
 refine getT R X rfl rfl rfl ?_
 repeat walk_at "e"
 refine i_dict (R.old _ _ X.dict) (X.at_ e) ?_
 repeat walk_at "e"
 exact q
theorem f28 (m : Nat) {rk : Int → Nat} {dd : Nat} (R : Rep A cl ql (setT Φ t T) G h n) (X : TR A t a d mx es T G) (W : WS T rk) (hr : rk 0 < dd) {r : Nd} (h0 : T 0 = some r) (ha : r.act = false)
  (hQ : ∀ x h' n', (sched dd T 0).2 = some x → Rep A cl ql (setT Φ t (sched dd T 0).1) G h' n' → Q (.int x) L h' n' 0) (hE : ∀ h' n', (sched dd T 0).2 = none → Rep A cl ql (setT Φ t (sched dd T 0).1) G h' n' → E 12 false L h' n' 0) : Wp (callF sg (m + 4 + dd + 1 + 1) 28 [.loc a] ⟨L, h, n, 0⟩) Q E := by
 refine c_in rfl ?_
 show Wp (execs sg _ b28 ⟨[(20, .loc a)], h, n, 0⟩) _ _
 delta b28
 repeat walk_at "e"
 refine ⟨_, methT R X rfl rfl, ?_⟩
 repeat walk_at "e"
 refine c_fn rfl rfl (c_in rfl ?_)
 show Wp (execs sg _ b27 ⟨[(20, .loc a)], h, n, 0⟩) _ _
 delta b27
 repeat walk_at "e"
 refine x_try ?_
 repeat walk_at "e"
 refine getT R X rfl rfl rfl ?_
 refine ⟨_, R.meth h0 rfl rfl, ?_⟩
 repeat walk_at "e"
 refine c_fn rfl rfl (f9 m dd 0 hr R W h0 ha (fun x h' n' e R' => ?_) fun h' n' e R' => ?_)
 ·repeat walk_at "e"
  exact hQ x h' n' e R'
 ·refine h_hit rfl ?_
  repeat walk_at "e"
  exact ⟨Nat.le_refl _, hE h' n' e R'⟩
end
end
section
open PySem PySem.W PyProof.Rows
noncomputable def climb (T : Tr) : Nat → Int → Int → Option Bool
 | 0, _, _ => none
 | f + 1, p, x => match T p with
  | some np => match np.par with
   | some q => if T q = none then none else if q = x then some true else if q = 0 then some false else climb T f q x
   | none => none
  | none => none
noncomputable def putIn (T : Tr) (p x w : Int) (ex : Bool) : Tr := if ex = true then addExcl (setN T x (nd0 w)) p x else addChild (setN T x (nd0 w)) p x
noncomputable def moved (T : Tr) (q p x : Int) (ex : Bool) : Tr := if ex = true then addExcl (cutChild T q x) p x else addChild (cutChild T q x) p x
section
variable {C : Nat → List AV → St → R AV} {E : Est} {k n : Nat} {h : Hp} {L : Lo} {a d : Nat} {A cl ql : Ad} {G : Hp} {Φ : Fo} {t : Nat} {i x p : Int} {nd : Nd} {T : Tr} {mx : Int} {es : List (AV × AV)} {Q : Pst AV}
theorem bi_range {j : Int} (e : 0 ≤ j ∧ j ≤ 1000) (q : Q (.loc n) L (upd h n (.rng j)) (n + 1) k) : Wp (callV sg C (.gl 66) [.int j] [] ⟨L, h, n, k⟩) Q E := by
 show Wp (if 0 ≤ j ∧ j ≤ 1000 then Mine.R.ok (.loc n) _ else .bad) Q E
 rw [if_pos e]
 exact q
theorem it_rng {l : Nat} {j : Int} (e : h l = some (.rng j)) : iterOf (.loc l) ⟨L, h, n, k⟩ = some (.rng j) := by
 show (match h l with | some (.list _) => some (It.list l) | some (.tup _) => some (.tup l) | some (.rng n) => some (.rng n) | _ => none) = _
 rw [e]
theorem at_rng {j i : Nat} : itemAt (.rng j) i ⟨L, h, n, k⟩ = some (((List.range j).map fun x : Nat => AV.int x)[i]?) := by
 show some (if (i : Int) < (j : Int) then some (AV.int i) else none) = _
 congr 1
 by_cases q : i < j
 ·rw [if_pos (by omega), List.getElem?_map, List.getElem?_range q]; rfl
 ·rw [if_neg (by omega), List.getElem?_eq_none (by simp; omega)]
theorem f17 (m : Nat) {b : Bool} (R : Rep A cl ql (setT Φ t T) G h n) (hk : k ≤ 1) (hx : T x ≠ none) (hc : climb T 100 p x = some b) (hQ : ∀ h' n', Rep A cl ql (setT Φ t T) G h' n' → Q (.bool b) L h' n' k) : Wp (callF sg (m + 1) 17 [.loc (A t p), .loc (A t x)] ⟨L, h, n, k⟩) Q E := by
 refine c_in rfl ?_
 show Wp (execs sg _ b17 ⟨[(62, .loc (A t p)), (63, .loc (A t x))], h, n, k⟩) _ _
 delta b17
 refine xo1_1 (Option.ne_none_iff_exists'.mp hx) fun nx hx => ?_
 repeat walk_at "e"
 refine x_for ?_
 repeat walk_at "e"
 refine bi_range (by decide) ?_
 have R1 := R.junk (.rng 100)
 refine ⟨_, it_rng (upd_same ..), ?_⟩
 generalize upd h n (.rng 100) = hr at R1 ⊢
 generalize n + 1 = nr at R1 ⊢
 refine forN_wp (xs := (List.range 100).map fun x : Nat => AV.int x) (fun j L h n1 k' => k' = k ∧ h = hr ∧ n1 = nr ∧ get? L 63 = some (.loc (A t x)) ∧ ∃ q, get? L 25 = some (.loc (A t q)) ∧ climb T (100 - j) q x = some b)
  (fun j L h n k' w => ⟨at_rng, w.1 ▸ hk⟩) (fun j v L h n k' hv w => ?_) (fun L h n k' w => ?_) 100000 0 (by simp) (Nat.zero_le _) ⟨rfl, rfl, rfl, rfl, p, rfl, hc⟩
 ·refine xm_aaaaeaa w fun e0_ e1_ e2_ w1 q w2 w3 => ?_; clear w; obtain rfl := e0_; obtain rfl := e1_; obtain rfl := e2_
  have jl : j < 100 := by have := (List.getElem?_eq_some_iff.mp hv).1; simpa using this
  obtain ⟨f, hf⟩ : ∃ f, 100 - j = f + 1 := ⟨100 - j - 1, (Nat.sub_add_cancel (Nat.sub_pos_of_lt (by assumption))).symm⟩
  rw [hf] at w3
  unfold climb at w3
  cases hq : T q with
  | none => rw [hq] at w3; exact nsE w3
  | some nq =>
   rw [hq] at w3
   dsimp only at w3
   cases hpq : nq.par with
   | none => rw [hpq] at w3; exact nsE w3
   | some r =>
    rw [hpq] at w3
    dsimp only at w3
    cases hr : T r with
    | none => rw [if_pos hr] at w3; exact nsE w3
    | some nr =>
     rw [if_neg (by rw [hr]; nofun)] at w3
     refine t_nm ?_
     have l25 : get? (put L 65 v) 25 = some (.loc (A t q)) := by rw [get_put_ne _ _ (by decide)]; exact w2
     repeat walk_at "e"
     refine R1.getPar hq hpq ?_
     have m25 : get? (put (put L 65 v) 25 (.loc (A t r))) 25 = some (.loc (A t r)) := get_put _ _ _
     have m63 : get? (put (put L 65 v) 25 (.loc (A t r))) 63 = some (.loc (A t x)) := by rw [get_put_ne _ _ (by decide), get_put_ne _ _ (by decide)]; exact w1
     repeat walk_at "e"
     refine R1.getId hr ?_
     repeat walk_at "e"
     refine R1.getId hx ?_
     repeat walk_at "e"
     refine it_s (fun z => ?_) fun z => ?_
     ·have z := of_decide_eq_true z
      rw [if_pos z] at w3
      obtain rfl := Option.some.inj w3
      repeat walk_at "e"
      exact hQ _ _ R1
     ·have z := of_decide_eq_false z
      rw [if_neg z] at w3
      repeat walk_at "e"
      refine R1.getId hr ?_
      repeat walk_at "e"
      refine it_s (fun z => ?_) fun z => ?_
      ·have z := of_decide_eq_true z
       rw [if_pos z] at w3
       obtain rfl := Option.some.inj w3
       repeat walk_at "e"
       exact hQ _ _ R1
      ·have z := of_decide_eq_false z
       rw [if_neg z] at w3
       repeat walk_at "e"
       exact ⟨rfl, rfl, rfl, m63, r, m25, by rw [show 100 - (j + 1) = f by omega]; exact w3⟩
 ·refine xm_aaaaeaa w fun e0_ e1_ e2_ w1 q w2 w3 => ?_; clear w; obtain rfl := e0_; obtain rfl := e1_; obtain rfl := e2_
  simp [climb] at w3
theorem f20 (m : Nat) {np nc : Nd} (R : Rep A cl ql (setT Φ t T) G h n) (hk : k ≤ 1) (hp : T p = some np) (hc : T x = some nc) (hpc : p ≠ x) (hlen : np.kids.length ≤ 1000) (hg : Hang (addChild (setN T p { np with kids := [], queue := [], lw := 0 }) p x) x np.kids)
  (hQ : ∀ cl' ql' h' n', Rep A cl' ql' (setT Φ t (addExcl T p x)) G h' n' → Q .none L h' n' k) : Wp (callF sg (m + 6) 20 [.loc a, .loc (A t p), .loc (A t x)] ⟨L, h, n, k⟩) Q E := by
 refine c_in rfl ?_
 show Wp (execs sg _ b20 ⟨[(20, .loc a), (82, .loc (A t p)), (83, .loc (A t x))], h, n, k⟩) _ _
 delta b20
 repeat walk_at "e"
 refine ⟨_, R.meth hp rfl rfl, ?_⟩
 repeat walk_at "e"
 refine c_fn rfl rfl (f7 m R hk hp hc hpc hlen hg fun cl' ql' h' n' R' => ⟨trivial, ?_⟩)
 repeat walk_at "e"
 exact hQ _ _ _ _ R'
theorem TR.newA {l : Nat} (X : TR A t a d mx es T G) (hx : T x = none) (h0 : x ≠ 0) : TR (updA A t x l) t a d mx es T G := by
 refine ⟨?_, X.dict, fun i => ?_, X.len⟩
 ·have : updA A t x l t 0 = A t 0 := updA_ne _ _ fun w => h0 w.2.symm
  show G a = some (.inst 68 [(70, .loc (updA A t x l t 0)), _, _])
  rw [this]; exact X.obj
 ·rw [X.ent]
  cases q : T i with
  | none => rfl
  | some y => show some _ = some _; rw [updA_ne _ _ fun w => by rw [w.2, hx] at q; cases q]
structure Takes (T : Tr) (p : Int) (np : Nd) : Prop where
 at_ : T p = some np
 q : ∀ y ∈ np.queue, T y.2 ≠ none
 ql : np.queue.length ≤ 1000
 kl : np.kids.length ≤ 1000
theorem Takes.new {np : Nd} (x : Takes T p np) {i : Int} (h : p ≠ i) (nd : Nd) : Takes (setN T i nd) p np := ⟨(setN_ne _ _ h).trans x.at_, fun y hy => setN_dom (x.q y hy), x.ql, x.kl⟩
theorem f21 (m : Nat) {w : Int} {pv : AV} {ex : Bool} (R : Rep A cl ql (setT Φ t T) G h n) (hk : k ≤ 1) (X : TR A t a d mx es T G) (h0 : 0 < x ∧ x < 1000000000) (hmx : (es.length : Int) + 1 ≤ mx) (no : T x = none → NoRef T x) (hpv : pv = .int p ∨ (pv = .none ∧ p = 0))
  (hd : T x ≠ none → E 14 (k == 0) L h n k) (hE : T x = none → ¬ (1 ≤ w ∧ w ≤ 256) → ∀ h' n', Rep A cl ql (setT Φ t T) G h' n' → E 17 (k == 0) L h' n' k)
  (hpx : T x = none → p ≠ x) (hp : T x = none → 1 ≤ w ∧ w ≤ 256 → ∃ np, Takes T p np ∧ (ex = true → Hang (addChild (setN (setN T x (nd0 w)) p { np with kids := [], queue := [], lw := 0 }) p x) x np.kids))
  (hQ : T x = none → 1 ≤ w ∧ w ≤ 256 → ∀ cl' ql' h' n', Rep (updA A t x n) cl' ql' (setT Φ t (putIn T p x w ex)) (upd G d (.dict (dput es (.int x) (.loc n)))) h' n' → Q .none L h' n' k) :
  Wp (callF sg (m + 7) 21 [.loc a, .int x, pv, .int w, .bool ex] ⟨L, h, n, k⟩) Q E := by
 refine c_in rfl ?_
 show Wp (execs sg _ b21 ⟨[(20, .loc a), (21, .int x), (85, pv), (22, .int w), (86, .bool ex)], h, n, k⟩) _ _
 delta b21
 repeat walk_at "e"
 refine getT R X rfl rfl rfl ?_
 refine k_in (R.old _ _ X.dict) ?_
 repeat walk_at "e"
 cases q : T x with
 | some y =>
  refine it_t (by rw [X.at_ (by rw [q]; nofun)]; rfl) ?_
  repeat walk_at "e"
  refine o_pct ⟨by decide, by omega, h0.2⟩ ?_
  exact ⟨hk, hd (by rw [q]; nofun)⟩
 | none =>
  refine it_f (by rw [X.no q]; rfl) ?_
  repeat walk_at "e"
  refine getT R X rfl rfl rfl ?_
  repeat walk_at "e"
  refine bi_dlen (R.old _ _ X.dict) ?_
  repeat walk_at "e"
  refine getT R X rfl rfl rfl ?_
  repeat walk_at "e"
  refine it_f (decide_eq_false (by omega)) ?_
  repeat walk_at "e"
  refine c_stream (m + 4) R (by rw [setT_same]; exact no q) hk (fun hw cl1 ql1 h1 n1 ln R1 => ?_) fun hw h' n' R' => hE q hw _ _ R'
  rw [setT_setT, setT_same] at R1
  have X1 := X.newA (l := n) q (by omega)
  have px := hpx q
  refine xo1_2 (hp q hw) fun np tk hg => ?_
  have tk1 := tk.new px (nd0 w)
  have eA : updA A t x n t x = n := updA_same ..
  have rest : ∀ (L1 : Lo), get? L1 20 = some (.loc a) → get? L1 21 = some (.int x) → get? L1 85 = some (.int p) → get? L1 86 = some (.bool ex) → get? L1 46 = some (.loc (updA A t x n t x)) →
    Wp (execs sg (callF sg (m + 6)) (match b21 with | .cons _ (.cons _ (.cons _ (.cons _ r))) => r | _ => .nil) ⟨L1, h1, n1, k⟩) (Back L Q) fun c cl _ h n k => E c cl L h n k := fun L1 l20 l21 l85 l86 l46 => by
   delta b21
   dsimp only
   have store : ∀ {T1 : Tr} {cl2 ql2 : Ad} {h2 : Hp} {n2 : Nat} {L2 : Lo} {r : Ss} {p1 p2 p3 p4 p5 p6 : Pos} {Q' : Pst Fl} {E' : Est}, Rep (updA A t x n) cl2 ql2 (setT Φ t T1) G h2 n2 → get? L2 20 = some (.loc a) → get? L2 21 = some (.int x) → get? L2 46 = some (.loc (updA A t x n t x)) →
     (∀ h3, Rep (updA A t x n) cl2 ql2 (setT Φ t T1) (upd G d (.dict (dput es (.int x) (.loc n)))) h3 n2 → Wp (execs sg (callF sg (m + 6)) r ⟨L2, h3, n2, k⟩) Q' E') →
     Wp (execs sg (callF sg (m + 6)) (.cons (.asg (.sub (.attr (.lv 20 p1) 71 p2) (.lv 21 p3) p4) (.lv 46 p5) p6) r) ⟨L2, h2, n2, k⟩) Q' E' := fun R2 m20 m21 m46 go => by
    repeat walk_at "e"
    refine getT R2 X1 rfl rfl rfl ?_
    repeat walk_at "e"
    refine j_dict (R2.old _ _ X.dict) (by have := X.len; omega) ?_
    refine go_next (go _ ?_)
    rw [eA]
    exact R2.put X.dict rfl _
   repeat walk_at "e"
   cases ex with
   | true =>
    repeat walk_at "e"
    refine ⟨_, methT R1 X1 rfl rfl, ?_⟩
    repeat walk_at "e"
    refine c_fn rfl rfl (f19 (m + 5) R1 X1 (p := p) (by rw [tk.at_]; nofun) ?_)
    have l20' : get? (put L1 82 (.loc (updA A t x n t p))) 20 = some (.loc a) := by rw [get_put_ne _ _ (by decide)]; exact l20
    have l21' : get? (put L1 82 (.loc (updA A t x n t p))) 21 = some (.int x) := by rw [get_put_ne _ _ (by decide)]; exact l21
    have l46' : get? (put L1 82 (.loc (updA A t x n t p))) 46 = some (.loc (updA A t x n t x)) := by rw [get_put_ne _ _ (by decide)]; exact l46
    have l82' : get? (put L1 82 (.loc (updA A t x n t p))) 82 = some (.loc (updA A t x n t p)) := get_put _ _ _
    repeat walk_at "e"
    refine ⟨_, methT R1 X1 rfl rfl, ?_⟩
    repeat walk_at "e"
    refine c_fn rfl rfl (f20 m R1 hk tk1.at_ (setN_same ..) px tk1.kl (hg rfl) fun cl2 ql2 h2 n2 R2 => ⟨trivial, ?_⟩)
    refine go_next (store R2 l20' l21' l46' fun h3 R3 => ?_)
    repeat walk_at "e"
    exact hQ q hw _ _ _ _ R3
   | false =>
    repeat walk_at "e"
    refine ⟨_, methT R1 X1 rfl rfl, ?_⟩
    repeat walk_at "e"
    refine c_fn rfl rfl (f19 (m + 5) R1 X1 (p := p) (by rw [tk.at_]; nofun) ?_)
    have l20' : get? (put L1 25 (.loc (updA A t x n t p))) 20 = some (.loc a) := by rw [get_put_ne _ _ (by decide)]; exact l20
    have l21' : get? (put L1 25 (.loc (updA A t x n t p))) 21 = some (.int x) := by rw [get_put_ne _ _ (by decide)]; exact l21
    have l46' : get? (put L1 25 (.loc (updA A t x n t p))) 46 = some (.loc (updA A t x n t x)) := by rw [get_put_ne _ _ (by decide)]; exact l46
    have l25' : get? (put L1 25 (.loc (updA A t x n t p))) 25 = some (.loc (updA A t x n t p)) := get_put _ _ _
    repeat walk_at "e"
    refine ⟨_, R1.meth tk1.at_ rfl rfl, ?_⟩
    repeat walk_at "e"
    refine c_fn rfl rfl (f6 (m + 2) R1 tk1.at_ (setN_same ..) px tk1.q tk1.ql tk1.kl fun h2 n2 R2 => ⟨trivial, ?_⟩)
    refine go_next (store R2 l20' l21' l46' fun h3 R3 => ?_)
    repeat walk_at "e"
    exact hQ q hw _ _ _ _ R3
  rcases hpv with rfl | ⟨rfl, rfl⟩
  ·repeat walk_at "e"
   refine t_int ?_
   repeat walk_at "e"
   refine it_s (fun z => ?_) fun z => ?_
   ·have z : p = 0 := by simpa using z
    refine xs_cons (x_asg (e_ci (go_next (xs_nil (go_next ?_)))))
    refine rest _ ?a1 ?a2 ?a3 ?a4 ?a5
    ·rfl
    ·rfl
    ·rw [z]; exact get_put _ _ _
    ·rfl
    ·rw [eA]; rfl
   ·repeat walk_at "e"
    refine it_f (decide_eq_false px) ?_
    refine xs_nil (go_next (xs_nil (go_next ?_)))
    refine rest _ ?b1 ?b2 ?b3 ?b4 ?b5
    ·rfl
    ·rfl
    ·rfl
    ·rfl
    ·rw [eA]; rfl
  ·refine go_next (xs_cons (x_ife (e_not (e_lv rfl (t_none (t_bool (it_t rfl (xs_cons (x_asg (e_ci (go_next (xs_nil (go_next ?_)))))))))))))
   refine rest _ ?c1 ?c2 ?c3 ?c4 ?c5
   ·rfl
   ·rfl
   ·rfl
   ·rfl
   ·rw [eA]; rfl
end
end
section
open PySem PySem.W PyProof.Rows
noncomputable def delN (T : Tr) (x : Int) : Tr := fun j => if j = x then none else T j
noncomputable def takeOut (T : Tr) (q x : Int) : Tr := delN (rmChild T q x true) x
structure Gives (T : Tr) (q x : Int) (nq nx : Nd) : Prop where
 at_ : T q = some nq
 c : T x = some nx
 par : nx.par = some q
 ne : q ≠ x
 mem : x ∈ nq.kids
 kids : ∀ y ∈ nq.kids, T y ≠ none
 q : ∀ y ∈ nq.queue, T y.2 ≠ none
 kl : nq.kids.length ≤ 1000
 ql : nq.queue.length ≤ 1000
section
variable {C : Nat → List AV → St → R AV} {E : Est} {k n : Nat} {h : Hp} {L : Lo} {a d : Nat} {A cl ql : Ad} {G : Hp} {Φ : Fo} {t : Nat} {i x p q : Int} {nd nq nx : Nd} {T : Tr} {mx : Int} {es : List (AV × AV)} {Q : Pst AV}
theorem Rep.forget (R : Rep A cl ql (setT Φ t T) G h n) (x : Int) : Rep A cl ql (setT Φ t (delN T x)) G h n := by
 have s : ∀ {u : Nat} {j : Int} {y : Nd}, setT Φ t (delN T x) u j = some y → setT Φ t T u j = some y := fun {u j y} e => by
  by_cases w : u = t
  ·subst w
   rw [setT_same] at e ⊢
   unfold delN at e
   split at e
   ·exact nsE e
   ·exact e
  ·rw [setT_ne _ _ w] at e ⊢; exact e
 have d : ∀ {u : Nat} {j : Int}, setT Φ t (delN T x) u j ≠ none → setT Φ t T u j ≠ none := fun e => by
  refine xo1_1 (Option.ne_none_iff_exists'.mp e) fun y hy => ?_
  rw [s hy]; nofun
 exact ⟨fun u j y e => R.node _ _ _ (s e), fun u j y e => R.kids _ _ _ (s e), fun u j y e => R.queue _ _ _ (s e), fun _ _ _ _ e e' => R.aa _ _ _ _ (d e) (d e'), fun _ _ _ _ e e' => R.cc _ _ _ _ (d e) (d e'), fun _ _ _ _ e e' => R.qq _ _ _ _ (d e) (d e'), fun _ _ _ _ e e' => R.cq _ _ _ _ (d e) (d e'), R.old, fun l o e u j e' => R.free l o e u j (d e'), R.lt⟩
theorem f23 (m : Nat) (R : Rep A cl ql (setT Φ t T) G h n) (hk : k ≤ 1) (X : TR A t a d mx es T G) (h0 : 0 < x ∧ x < 1000000000)
  (hE : T x = none → k = 0 ∧ E 15 false L h n 0) (hg : T x ≠ none → ∃ nq nx, Gives T q x nq nx ∧ Hang (cutChild T q x) q nx.kids ∧ nx.kids.length ≤ 1000)
  (hQ : T x ≠ none → ∀ ql' h' n', Rep A cl ql' (setT Φ t (takeOut T q x)) (upd G d (.dict (ddel es (.int x)))) h' n' → Q .none L h' n' k) : Wp (callF sg (m + 6) 23 [.loc a, .int x] ⟨L, h, n, k⟩) Q E := by
 refine c_in rfl ?_
 show Wp (execs sg _ b23 ⟨[(20, .loc a), (21, .int x)], h, n, k⟩) _ _
 delta b23
 repeat walk_at "e"
 refine it_f (decide_eq_false (by omega)) ?_
 repeat walk_at "e"
 refine x_try ?_
 repeat walk_at "e"
 refine getT R X rfl rfl rfl ?_
 refine ⟨_, m_dpop (R.old _ _ X.dict), ?_⟩
 repeat walk_at "e"
 cases z : T x with
 | none =>
  refine xo0_2 (hE z) fun e0_ e => ?_; obtain rfl := e0_
  refine c_dpop0 (R.old _ _ X.dict) (X.no z) ?_
  refine h_hit rfl ?_
  repeat walk_at "e"
  refine o_pct ⟨by decide, by omega, h0.2⟩ ?_
  exact ⟨Nat.le_refl _, e⟩
 | some nx0 =>
  have zn : T x ≠ none := by rw [z]; nofun
  refine xo2_3 (hg zn) fun nq nx g g1 g2 => ?_
  refine c_dpop (R.old _ _ X.dict) (X.at_ zn) ?_
  have R1 := R.put X.dict rfl (.dict (ddel es (.int x)))
  repeat walk_at "e"
  refine R1.getPar g.c g.par ?_
  repeat walk_at "e"
  refine ⟨_, R1.meth g.at_ rfl rfl, ?_⟩
  repeat walk_at "e"
  refine c_fn rfl rfl (f8 m R1 hk g.at_ g.c g.ne g.mem g.kids g.q g.kl g.ql (fun _ => ⟨g1, g2⟩) fun ql' h' n' R2 => ⟨trivial, ?_⟩)
  repeat walk_at "e"
  exact hQ zn _ _ _ (R2.forget x)
theorem f22 (m : Nat) {w : Int} {pv : AV} {ex : Bool} (R : Rep A cl ql (setT Φ t T) G h n) (hk : k ≤ 1) (X : TR A t a d mx es T G) (h0 : 0 < x ∧ x < 1000000000) (hpv : (pv = .int p ∧ (p = 0 ∨ (p ≠ x ∧ (T x ≠ none → climb T 100 p x = some false)))) ∨ (pv = .none ∧ p = 0))
  (hM : T x = none → k = 0 ∧ E 15 false L h n 0) (hE : T x ≠ none → ¬ (1 ≤ w ∧ w ≤ 256) → ∀ h' n', Rep A cl ql (setT Φ t T) G h' n' → E 17 (k == 0) L h' n' k)
  (hp : T p ≠ none) (hg : T x ≠ none → 1 ≤ w ∧ w ≤ 256 → ∃ nq nx np, T x = some nx ∧ Gives (setN T x { nx with w := w }) q x nq { nx with w := w } ∧ p ≠ x ∧ Takes (cutChild (setN T x { nx with w := w }) q x) p np ∧
   (ex = true → Hang (addChild (setN (cutChild (setN T x { nx with w := w }) q x) p { np with kids := [], queue := [], lw := 0 }) p x) x np.kids))
  (hQ : ∀ nx, T x = some nx → 1 ≤ w ∧ w ≤ 256 → ∀ cl' ql' h' n', Rep A cl' ql' (setT Φ t (moved (setN T x { nx with w := w }) q p x ex)) G h' n' → Q .none L h' n' k) :
  Wp (callF sg (m + 7) 22 [.loc a, .int x, pv, .int w, .bool ex] ⟨L, h, n, k⟩) Q E := by
 refine c_in rfl ?_
 show Wp (execs sg _ b22 ⟨[(20, .loc a), (21, .int x), (85, pv), (22, .int w), (86, .bool ex)], h, n, k⟩) _ _
 delta b22
 repeat walk_at "e"
 refine it_f (decide_eq_false (by omega)) ?_
 repeat walk_at "e"
 refine x_try ?_
 repeat walk_at "e"
 refine getT R X rfl rfl rfl ?_
 repeat walk_at "e"
 cases z : T x with
 | none =>
  refine xo0_2 (hM z) fun e0_ e => ?_; obtain rfl := e0_
  refine i_dict0 (R.old _ _ X.dict) (X.no z) ?_
  refine h_hit rfl ?_
  repeat walk_at "e"
  refine o_pct ⟨by decide, by omega, h0.2⟩ ?_
  exact ⟨Nat.le_refl _, e⟩
 | some nx =>
  have zn : T x ≠ none := by rw [z]; nofun
  refine i_dict (R.old _ _ X.dict) (X.at_ zn) ?_
  have rest : ∀ (L1 : Lo) (h1 : Hp) (n1 : Nat), Rep A cl ql (setT Φ t T) G h1 n1 → get? L1 22 = some (.int w) → get? L1 62 = some (.loc (A t p)) → get? L1 86 = some (.bool ex) → get? L1 92 = some (.loc (A t x)) → get? L1 95 = some (.bool false) →
    Wp (execs sg (callF sg (m + 6)) (match b22 with | .cons _ (.cons _ (.cons _ r)) => r | _ => .nil) ⟨L1, h1, n1, k⟩) (Back L Q) fun c cl _ h n k => E c cl L h n k := fun L1 h1 n1 R1 l22 l62 l86 l92 l95 => by
   delta b22
   dsimp only
   repeat walk_at "e"
   refine R1.setW (m + 5) z w hk (fun hw h2 R2 => ?_) fun hw => hE zn hw _ _ R1
   refine xo3_5 (hg zn hw) fun nq nx' np e1 g ne tk hh => ?_
   rw [z] at e1
   obtain rfl := Option.some.inj e1
   repeat walk_at "e"
   refine R2.getPar g.c g.par ?_
   refine ⟨_, R2.meth g.at_ rfl rfl, ?_⟩
   repeat walk_at "e"
   refine c_fn rfl rfl (f8 (m + 1) (b := false) R2 hk g.at_ g.c g.ne g.mem g.kids g.q g.kl g.ql nofun fun ql' h3 n3 R3 => ⟨trivial, ?_⟩)
   have e2 : rmChild (setN T x { nx with w := w }) q x false = cutChild (setN T x { nx with w := w }) q x := rfl
   rw [e2] at R3
   have cx : ∃ y, cutChild (setN T x { nx with w := w }) q x x = some y := by
    unfold cutChild; rw [g.at_]
    exact ⟨_, (setN_ne _ _ g.ne.symm).trans (setN_same ..)⟩
   revert cx; refine fun z_ => xo1_1 z_ fun ny cx => ?_; clear z_
   repeat walk_at "e"
   cases ex with
   | true =>
    repeat walk_at "e"
    refine ⟨_, R3.meth tk.at_ rfl rfl, ?_⟩
    repeat walk_at "e"
    refine c_fn rfl rfl (f7 (m + 1) R3 hk tk.at_ cx ne tk.kl (hh rfl) fun cl' ql' h' n' R4 => ⟨trivial, ?_⟩)
    repeat walk_at "e"
    exact hQ nx z hw _ _ _ _ R4
   | false =>
    repeat walk_at "e"
    refine ⟨_, R3.meth tk.at_ rfl rfl, ?_⟩
    repeat walk_at "e"
    refine c_fn rfl rfl (f6 (m + 2) R3 tk.at_ cx ne tk.q tk.ql tk.kl fun h' n' R4 => ⟨trivial, ?_⟩)
    repeat walk_at "e"
    exact hQ nx z hw _ _ _ _ R4
  have zero : p = 0 → ∀ (pv : AV), Wp (execs sg (callF sg (m + 6)) (match b22 with | .cons _ (.cons _ (.cons (.ife _ _ b _) _)) => b | _ => .nil) ⟨[(20, .loc a), (21, .int x), (85, pv), (22, .int w), (86, .bool ex), (92, .loc (A t x))], h, n, k⟩)
    (Go1 sg (callF sg (m + 6)) (match b22 with | .cons _ (.cons _ (.cons _ r)) => r | _ => .nil) (Back L Q) fun c cl _ h n k => E c cl L h n k) fun c cl _ h n k => E c cl L h n k := fun e0 pv => by
   subst e0
   refine xs_cons (x_asg (e_sub (e_attr (e_lv rfl (getT R X rfl rfl rfl (e_ci (i_dict (R.old _ _ X.dict) (X.at_ hp) ?_)))))))
   refine go_next (xs_cons (x_asg (e_cb (go_next (xs_nil (go_next (rest _ _ _ R ?_ ?_ ?_ ?_ ?_)))))))
   all_goals rfl
  refine go_next (xs_nil (go_next (xs_cons (x_ife (e_lv rfl ?_)))))
  rcases hpv with ⟨rfl, hp0⟩ | ⟨rfl, hp0⟩
  ·refine t_int (it_s (fun y => ?_) fun y => ?_)
   ·have y : p ≠ 0 := by simpa using y
    refine xo0_2 (hp0.resolve_left y) fun px hc => ?_
    refine xs_cons (x_ife (e_cmp (e_lv rfl (e_lv rfl (k_eq (t_bool (it_f (decide_eq_false px) (xs_nil (go_next ?_)))))))))
    repeat walk_at "e"
    refine ⟨_, methT R X rfl rfl, ?_⟩
    repeat walk_at "e"
    refine c_fn rfl rfl (f19 (m + 5) R X hp ?_)
    repeat walk_at "e"
    refine c_fn rfl rfl (f17 (m + 5) R hk zn (hc zn) fun h1 n1 R1 => ?_)
    refine go_next (xs_nil (go_next (rest _ _ _ R1 ?_ ?_ ?_ ?_ ?_)))
    all_goals rfl
   ·have y : p = 0 := by simpa using y
    exact zero y _
  ·exact t_none (it_f rfl (zero hp0 _))
end
end
section
open PySem
theorem nodup_len {xs : List Int} (h : xs.Nodup) : ∀ {ys : List Int}, (∀ x ∈ xs, x ∈ ys) → xs.length ≤ ys.length := by
 induction xs with
 | nil => intro ys _; exact Nat.zero_le _
 | cons a r ih =>
  intro ys hs
  rw [List.nodup_cons] at h
  have ha := hs a (.head _)
  have := ih h.2 (ys := ys.erase a) fun x hx => (List.mem_erase_of_ne (show x ≠ a from fun w => h.1 (by rw [← w]; exact hx))).mpr (hs x (.tail _ hx))
  rw [List.length_erase_of_mem ha] at this
  have p : 0 < ys.length := List.length_pos_of_mem ha
  simp only [List.length_cons]
  omega
inductive SB (T : Tr) (p : Int) : Int → Prop
 | kid {np i} : T p = some np → i ∈ np.kids → SB T p i
 | more {u nu i} : SB T p u → T u = some nu → i ∈ nu.kids → SB T p i
structure WD (M : Nat) (T : Tr) (D : Int → Prop) : Prop where
 root : ∃ r, T 0 = some r ∧ r.act = false ∧ r.par = none
 w : ∀ i nd, T i = some nd → 1 ≤ nd.w ∧ nd.w ≤ 256
 up : ∀ i nd, T i = some nd → i ≠ 0 → ¬ D i → ∃ p np, nd.par = some p ∧ T p = some np ∧ i ∈ np.kids
 down : ∀ p np, T p = some np → ∀ i ∈ np.kids, i ≠ 0 ∧ ¬ D i ∧ ∃ nd, T i = some nd ∧ nd.par = some p
 kq : ∀ p np, T p = some np → (np.queue.map (·.2)).Perm np.kids
 nodup : ∀ p np, T p = some np → np.kids.Nodup
 rank : ∃ rk : Int → Nat, ∀ p np, T p = some np → ∀ i ∈ np.kids, rk p < rk i
 fin : ∃ ids : List Int, ids.length ≤ M ∧ ∀ i, T i ≠ none → i ∈ ids
abbrev WT (M : Nat) (T : Tr) : Prop := WD M T fun _ => False
section
variable {M : Nat} {T T' : Tr} {x p q i : Int} {np nx nd : Nd} {y : Int → Prop}
theorem WD.kidsLen (W : WD M T y) (h : T p = some np) : np.kids.length ≤ M := by
 refine xo1_2 W.fin fun ids h1 h2 => ?_
 refine Nat.le_trans (nodup_len (W.nodup _ _ h) fun k hk => h2 k ?_) h1
 refine xm_aaeaa (W.down _ _ h k hk) fun _ _ nd e _ => ?_
 rw [e]; nofun
theorem WD.queueLen (W : WD M T y) (h : T p = some np) : np.queue.length ≤ M := by
 have := (W.kq _ _ h).length_eq
 rw [List.length_map] at this
 rw [this]; exact W.kidsLen h
theorem WD.kid (W : WD M T y) (h : T p = some np) (hk : i ∈ np.kids) : T i ≠ none := by
 refine xm_aaeaa (W.down _ _ h i hk) fun _ _ nd e _ => ?_
 rw [e]; nofun
theorem WD.inQ (W : WD M T y) (h : T p = some np) {z : Int × Int} (hz : z ∈ np.queue) : z.2 ∈ np.kids := (W.kq _ _ h).mem_iff.mp (List.mem_map.mpr ⟨z, hz, rfl⟩)
theorem WD.takes (W : WD M T y) (hM : M ≤ 900) (h : T p = some np) : Takes T p np := ⟨h, fun z hz => W.kid h (W.inQ h hz), by have := W.queueLen h; omega, by have := W.kidsLen h; omega⟩
theorem WD.notSelf (W : WD M T y) (h : T p = some np) : p ∉ np.kids := fun hk => by
 refine xo1_1 W.rank fun rk r => ?_
 have := r _ _ h p hk
 omega
theorem WD.gives (W : WD M T y) (hM : M ≤ 900) (hx : T x = some nx) (h0 : x ≠ 0) (hy : ¬ y x) : ∃ q nq, nx.par = some q ∧ Gives T q x nq nx := by
 refine xo2_3 (W.up _ _ hx h0 hy) fun q nq h1 h2 h3 => ?_
 exact ⟨q, nq, h1, h2, hx, h1, fun w => by subst w; exact W.notSelf h2 h3, h3, fun y hy => W.kid h2 hy, fun z hz => W.kid h2 (W.inQ h2 hz), by have := W.kidsLen h2; omega, by have := W.queueLen h2; omega⟩
theorem WD.noRef (W : WD M T fun _ => False) (h : T x = none) : NoRef T x := ⟨h, fun j nd e => ⟨fun hk => W.kid e hk h, fun z hz w => W.kid e (W.inQ e hz) (w ▸ h), fun w => by
 by_cases q : j = 0
 ·refine xo1_3 W.root fun r h1 _ h2 => ?_
  rw [q, h1] at e; obtain rfl := Option.some.inj e
  rw [h2] at w; exact nsE w
 ·refine xo2_3 (W.up _ _ e q id) fun p np h1 h2 _ => ?_
  rw [w] at h1; obtain rfl := Option.some.inj h1
  rw [h] at h2; cases h2⟩⟩
theorem WD.ws (W : WD M T y) (hM : M ≤ 900) : ∃ rk : Int → Nat, WS T rk ∧ ∀ i, rk i ≤ M := by
 refine xo1_1 W.rank fun rk r => ?_
 refine xo1_2 W.fin fun ids h1 h2 => ?_
 refine ⟨fun i => (ids.filter fun j => decide (rk i < rk j)).length, ⟨W.w, fun j nd e => by have := W.queueLen e; omega, fun j nd e z hz => ?_⟩, fun i => Nat.le_trans (List.length_filter_le _ _) h1⟩
 have hk := W.inQ e hz
 have lt := r _ _ e _ hk
 refine ⟨W.kid e hk, ?_⟩
 show (ids.filter fun k => decide (rk z.2 < rk k)).length < (ids.filter fun k => decide (rk j < rk k)).length
 have mz : z.2 ∈ ids := h2 _ (W.kid e hk)
 have key : ∀ l : List Int, z.2 ∈ l → (l.filter fun k => decide (rk z.2 < rk k)).length < (l.filter fun k => decide (rk j < rk k)).length := fun l => by
  have le : ∀ l : List Int, (l.filter fun k => decide (rk z.2 < rk k)).length ≤ (l.filter fun k => decide (rk j < rk k)).length := fun l => by
   induction l with
   | nil => exact Nat.le_refl _
   | cons a r ih =>
    rw [List.filter_cons, List.filter_cons]
    by_cases q1 : rk z.2 < rk a
    ·rw [if_pos (by simpa using q1), if_pos (by simp; omega)]
     exact Nat.succ_le_succ ih
    ·rw [if_neg (by simpa using q1)]
     split
     ·exact Nat.le_succ_of_le ih
     ·exact ih
  induction l with
  | nil => intro h; exact absurd h nofun
  | cons a r ih =>
   intro h
   rw [List.filter_cons, List.filter_cons]
   by_cases q : z.2 = a
   ·rw [if_neg (by rw [q]; simp), if_pos (by rw [← q]; simpa using lt)]
    exact Nat.lt_succ_of_le (le r)
   ·have := ih ((List.mem_cons.mp h).resolve_left q)
    by_cases q1 : rk z.2 < rk a
    ·rw [if_pos (by simpa using q1), if_pos (by simp; omega)]
     exact Nat.succ_lt_succ this
    ·rw [if_neg (by simpa using q1)]
     split
     ·exact Nat.lt_succ_of_lt this
     ·exact this
 exact key ids mz
theorem WD.touch (W : WD M T y) (hx : T x = some nx) {nx' : Nd} (hw : 1 ≤ nx'.w ∧ nx'.w ≤ 256) (h0 : x = 0 → nx'.act = false) (hp : nx'.par = nx.par) (hk : nx'.kids = nx.kids) (hq : (nx'.queue.map (·.2)).Perm (nx.queue.map (·.2))) : WD M (setN T x nx') y := by
 have at' : ∀ {i nd}, setN T x nx' i = some nd → ∃ nd0, T i = some nd0 ∧ nd.par = nd0.par ∧ nd.kids = nd0.kids ∧ (nd.queue.map (·.2)).Perm (nd0.queue.map (·.2)) ∧ 1 ≤ nd.w ∧ nd.w ≤ 256 := fun {i nd} e => by
  by_cases q : i = x
  ·subst q; rw [setN_same] at e; cases e; exact ⟨nx, hx, hp, hk, hq, hw⟩
  ·rw [setN_ne _ _ q] at e; exact ⟨nd, e, rfl, rfl, .refl _, W.w _ _ e⟩
 have to : ∀ {i nd}, T i = some nd → ∃ nd', setN T x nx' i = some nd' ∧ nd'.par = nd.par ∧ nd'.kids = nd.kids := fun {i nd} e => by
  by_cases q : i = x
  ·subst q; rw [hx] at e; cases e; exact ⟨nx', setN_same .., hp, hk⟩
  ·exact ⟨nd, (setN_ne _ _ q).trans e, rfl, rfl⟩
 refine ⟨?_, fun i nd e => ?_, fun i nd e h0 hy => ?_, fun p np e i hi => ?_, fun p np e => ?_, fun p np e => ?_, ?_, ?_⟩
 ·refine xo1_3 W.root fun r h1 h2 h3 => ?_
  by_cases q : (0 : Int) = x
  ·subst q; rw [hx] at h1; cases h1; exact ⟨nx', setN_same .., h0 rfl, hp.trans h3⟩
  ·exact ⟨r, (setN_ne _ _ q).trans h1, h2, h3⟩
 ·obtain ⟨_, _, _, _, _, h⟩ := at' e; exact h
 ·refine xo1_5 (at' e) fun nd0 e1 e2 e3 e4 _ => ?_
  refine xo2_3 (W.up _ _ e1 h0 hy) fun p np h1 h2 h3 => ?_
  refine xo1_3 (to h2) fun np' g1 g2 g3 => ?_
  exact ⟨p, np', e2.trans h1, g1, by rw [g3]; exact h3⟩
 ·refine xo1_5 (at' e) fun nd0 e1 e2 e3 e4 _ => ?_
  rw [e3] at hi
  refine xm_aaeaa (W.down _ _ e1 i hi) fun h1 h2 nd h3 h4 => ?_
  refine xo1_3 (to h3) fun nd' g1 g2 g3 => ?_
  exact ⟨h1, h2, nd', g1, g2.trans h4⟩
 ·refine xo1_5 (at' e) fun nd0 e1 e2 e3 e4 _ => ?_
  rw [e3]; exact e4.trans (W.kq _ _ e1)
 ·refine xo1_5 (at' e) fun nd0 e1 e2 e3 e4 _ => ?_
  rw [e3]; exact W.nodup _ _ e1
 ·refine xo1_1 W.rank fun rk r => ?_
  refine ⟨rk, fun p np e i hi => ?_⟩
  refine xo1_5 (at' e) fun nd0 e1 e2 e3 e4 _ => ?_
  rw [e3] at hi
  exact r _ _ e1 i hi
 ·refine xo1_2 W.fin fun ids h1 h2 => ?_
  refine ⟨ids, h1, fun i hi => h2 i fun w => hi ?_⟩
  rw [setN_ne _ _ fun q => by rw [q, hx] at w; cases w]; exact w
theorem WD.like (W : WD M T y) (h : ∀ j, OLike (T j) (T' j)) : WD M T' y := by
 refine ⟨?_, fun i nd e => ?_, fun i nd e h0 hy => ?_, fun p np e i hi => ?_, fun p np e => ?_, fun p np e => ?_, ?_, ?_⟩
 ·refine xo1_3 W.root fun r h1 h2 h3 => ?_
  refine xo1_2 ((h 0).get h1) fun r' g1 g2 => ?_
  exact ⟨r', g1, g2.act.trans h2, g2.par.trans h3⟩
 ·obtain ⟨u, e1, e2⟩ := (h i).back e; rw [e2.w]; exact W.w _ _ e1
 ·refine xo1_2 ((h i).back e) fun u e1 e2 => ?_
  refine xo2_3 (W.up _ _ e1 h0 hy) fun p np h1 h2 h3 => ?_
  refine xo1_2 ((h p).get h2) fun np' g1 g2 => ?_
  exact ⟨p, np', e2.par.trans h1, g1, by rw [g2.kids]; exact h3⟩
 ·refine xo1_2 ((h p).back e) fun u e1 e2 => ?_
  rw [e2.kids] at hi
  refine xm_aaeaa (W.down _ _ e1 i hi) fun h1 h2 nd h3 h4 => ?_
  refine xo1_2 ((h i).get h3) fun nd' g1 g2 => ?_
  exact ⟨h1, h2, nd', g1, g2.par.trans h4⟩
 ·refine xo1_2 ((h p).back e) fun u e1 e2 => ?_
  rw [e2.kids]; exact e2.queue.trans (W.kq _ _ e1)
 ·refine xo1_2 ((h p).back e) fun u e1 e2 => ?_
  rw [e2.kids]; exact W.nodup _ _ e1
 ·refine xo1_1 W.rank fun rk r => ?_
  refine ⟨rk, fun p np e i hi => ?_⟩
  refine xo1_2 ((h p).back e) fun u e1 e2 => ?_
  rw [e2.kids] at hi
  exact r _ _ e1 i hi
 ·refine xo1_2 W.fin fun ids h1 h2 => ?_
  exact ⟨ids, h1, fun i hi => h2 i fun w => hi ((h i).none.mp w)⟩
end
end
section
open PySem
noncomputable def pushAll (lw : Int) (ks : List Int) (q : List (Int × Int)) : List (Int × Int) := ks.foldl (fun q k => qpush q (lw, k)) q
theorem pushAll_perm (lw : Int) (ks : List Int) : ∀ q, ((pushAll lw ks q).map (·.2)).Perm (q.map (·.2) ++ ks) := by
 induction ks with
 | nil => intro q; rw [List.append_nil]; exact .refl _
 | cons k r ih =>
  intro q
  refine (ih (qpush q (lw, k))).trans ?_
  refine (((perm_qpush q (lw, k)).map _).append_right _).trans ?_
  rw [List.map_cons, List.cons_append]
  exact List.perm_middle.symm
noncomputable def hung (T : Tr) (p : Int) (ks : List Int) (np : Nd) : Tr := fun j =>
 if j = p then some { np with kids := np.kids ++ ks, queue := pushAll np.lw ks np.queue } else if j ∈ ks then (T j).map fun nd => { nd with par := some p } else T j
section
variable {M : Nat} {T T' : Tr} {x p q i : Int} {np nx nq nd : Nd} {y : Int → Prop}
theorem hangAll_eq (ks : List Int) : ∀ {T : Tr} {np : Nd}, T p = some np → (∀ k ∈ ks, T k ≠ none ∧ k ≠ p) → hangAll T p ks = hung T p ks np := by
 induction ks with
 | nil =>
  intro T np h _
  funext j
  show T j = if j = p then some { np with kids := np.kids ++ [], queue := np.queue } else if j ∈ [] then _ else T j
  by_cases q : j = p
  ·rw [if_pos q, q, h, List.append_nil]
  ·rw [if_neg q, if_neg (by simp)]
 | cons k r ih =>
  intro T np h hk
  refine xo0_2 (hk k (.head _)) fun h1 h2 => ?_
  refine xo1_1 (Option.ne_none_iff_exists'.mp h1) fun nk h3 => ?_
  have e := addChild_eq h h3
  have : hangAll T p (k :: r) = hangAll (addChild T p k) p r := rfl
  have hp' : addChild T p k p = some { np with kids := np.kids ++ [k], queue := qpush np.queue (np.lw, k) } := by rw [e]; exact setN_same ..
  rw [this, ih hp' fun z hz => ⟨by
   rw [e, setN_ne _ _ (hk z (.tail _ hz)).2]
   exact setN_dom (hk z (.tail _ hz)).1, (hk z (.tail _ hz)).2⟩]
  funext j
  show (if j = p then _ else if j ∈ r then (addChild T p k j).map _ else addChild T p k j) = if j = p then _ else if j ∈ k :: r then _ else T j
  by_cases q : j = p
  ·rw [if_pos q, if_pos q, List.append_assoc]; rfl
  ·rw [if_neg q, if_neg q, e, setN_ne _ _ q]
   by_cases qk : j = k
   ·subst qk
    have m : j ∈ j :: r := .head _
    rw [setN_same, h3, if_pos m]
    split <;> rfl
   ·rw [setN_ne _ _ qk]
    by_cases m : j ∈ r
    ·rw [if_pos m, if_pos (List.mem_cons_of_mem _ m)]
    ·rw [if_neg m, if_neg (by simp [qk, m])]
theorem addChild_hang (T : Tr) (p c : Int) : addChild T p c = hangAll T p [c] := rfl
theorem Hang.of (ks : List Int) : ∀ {T : Tr} {nc : Nd}, T x = some nc → (∀ k ∈ ks, T k ≠ none ∧ x ≠ k) → (∀ z ∈ nc.queue, T z.2 ≠ none) → nc.queue.length + ks.length ≤ 1000 → nc.kids.length + ks.length ≤ 1000 → Hang T x ks := by
 induction ks with
 | nil => intros; trivial
 | cons k r ih =>
  intro T nc h hk hq l1 l2
  refine xo0_2 (hk k (.head _)) fun h1 h2 => ?_
  refine xo1_1 (Option.ne_none_iff_exists'.mp h1) fun nk h3 => ?_
  have e := addChild_eq h h3
  have dom : ∀ {j : Int}, T j ≠ none → addChild T x k j ≠ none := fun hj => by rw [e]; exact setN_dom (setN_dom hj)
  simp only [List.length_cons] at l1 l2
  refine ⟨h2, ⟨nc, h, hq, by omega, by omega⟩, h1, ih (by rw [e]; exact setN_same ..) (fun z hz => ⟨dom (hk z (.tail _ hz)).1, (hk z (.tail _ hz)).2⟩) (fun z hz => ?_) (by rw [qpush_len]; omega) (by simp; omega)⟩
  rcases qpush_mem hz with rfl | hz
  ·exact dom h1
  ·exact dom (hq z hz)
theorem WD.new (W : WT M T) (h : T x = none) (h0 : x ≠ 0) {w : Int} (hw : 1 ≤ w ∧ w ≤ 256) : WD (M + 1) (setN T x (nd0 w)) (· = x) := by
 have nx : ∀ {i nd}, T i = some nd → i ≠ x := fun e q => by rw [q, h] at e; exact nsE e
 have to : ∀ {i nd}, T i = some nd → setN T x (nd0 w) i = some nd := fun e => (setN_ne _ _ (nx e)).trans e
 have at' : ∀ {i nd}, setN T x (nd0 w) i = some nd → (i = x ∧ nd = nd0 w) ∨ T i = some nd := fun {i nd} e => by
  by_cases q : i = x
  ·subst q; rw [setN_same] at e; cases e; exact .inl ⟨rfl, rfl⟩
  ·rw [setN_ne _ _ q] at e; exact .inr e
 refine ⟨?_, fun i nd e => ?_, fun i nd e h0 hy => ?_, fun p np e i hi => ?_, fun p np e => ?_, fun p np e => ?_, ?_, ?_⟩
 ·obtain ⟨r, h1, h2, h3⟩ := W.root; exact ⟨r, to h1, h2, h3⟩
 ·rcases at' e with ⟨_, rfl⟩ | e
  ·exact hw
  ·exact W.w _ _ e
 ·rcases at' e with ⟨rfl, rfl⟩ | e
  ·exact (hy rfl).elim
  ·refine xo2_3 (W.up _ _ e h0 id) fun p np h1 h2 h3 => ?_
   exact ⟨p, np, h1, to h2, h3⟩
 ·rcases at' e with ⟨_, rfl⟩ | e
  ·exact absurd hi nofun
  ·refine xm_aaeaa (W.down _ _ e i hi) fun h1 _ nd h3 h4 => ?_
   exact ⟨h1, fun w => nx h3 w, nd, to h3, h4⟩
 ·rcases at' e with ⟨_, rfl⟩ | e
  ·exact .refl _
  ·exact W.kq _ _ e
 ·rcases at' e with ⟨_, rfl⟩ | e
  ·exact .nil
  ·exact W.nodup _ _ e
 ·refine xo1_1 W.rank fun rk r => ?_
  refine ⟨rk, fun p np e i hi => ?_⟩
  rcases at' e with ⟨_, rfl⟩ | e
  ·exact absurd hi nofun
  ·exact r _ _ e i hi
 ·refine xo1_2 W.fin fun ids h1 h2 => ?_
  refine ⟨x :: ids, by simp; omega, fun i hi => ?_⟩
  refine xo1_1 (Option.ne_none_iff_exists'.mp hi) fun nd e => ?_
  rcases at' e with ⟨rfl, _⟩ | e
  ·exact .head _
  ·exact .tail _ (h2 i (by rw [e]; nofun))
theorem requeue_perm (q : List (Int × Int)) (c : Int) : ((requeue q c).map (·.2)).Perm ((q.map (·.2)).filter fun i => decide (i ≠ c)) := by
 have : ∀ (l acc : List (Int × Int)), ((l.foldl qpush acc).map (·.2)).Perm (acc.map (·.2) ++ l.map (·.2)) := fun l => by
  induction l with
  | nil => intro acc; rw [List.map_nil, List.append_nil]; exact .refl _
  | cons p r ih =>
   intro acc
   refine (ih (qpush acc p)).trans ?_
   refine (((perm_qpush acc p).map _).append_right _).trans ?_
   rw [List.map_cons, List.map_cons, List.cons_append]
   exact List.perm_middle.symm
 unfold requeue
 refine (this _ _).trans ?_
 rw [List.map_nil, List.nil_append, List.filter_map]
 exact .refl _
theorem cut_at (hq : T q = some nq) {j : Int} {nd : Nd} (e : cutChild T q x j = some nd) : ∃ nd0, T j = some nd0 ∧ nd.w = nd0.w ∧ nd.act = nd0.act ∧ nd.par = nd0.par ∧ nd.kids = (if j = q then nq.kids.erase x else nd0.kids) ∧ nd.queue = (if j = q then requeue nq.queue x else nd0.queue) := by
 unfold cutChild at e
 rw [hq] at e
 dsimp only at e
 by_cases w : j = q
 ·subst w; rw [setN_same] at e; cases e; exact ⟨nq, hq, rfl, rfl, rfl, by rw [if_pos rfl], by rw [if_pos rfl]⟩
 ·rw [setN_ne _ _ w] at e; exact ⟨nd, e, rfl, rfl, rfl, by rw [if_neg w], by rw [if_neg w]⟩
theorem cut_to (hq : T q = some nq) {j : Int} {nd : Nd} (e : T j = some nd) : ∃ nd', cutChild T q x j = some nd' ∧ nd'.w = nd.w ∧ nd'.act = nd.act ∧ nd'.par = nd.par ∧ nd'.kids = (if j = q then nq.kids.erase x else nd.kids) := by
 unfold cutChild
 rw [hq]
 dsimp only
 by_cases w : j = q
 ·subst w; rw [hq] at e; cases e; exact ⟨_, setN_same .., rfl, rfl, rfl, by rw [if_pos rfl]⟩
 ·exact ⟨nd, (setN_ne _ _ w).trans e, rfl, rfl, rfl, by rw [if_neg w]⟩
theorem WD.cut (W : WT M T) (hq : T q = some nq) (hx : T x = some nx) (hp : nx.par = some q) (h0 : x ≠ 0) : WD M (cutChild T q x) (· = x) := by
 have sub : ∀ {j nd}, cutChild T q x j = some nd → ∃ nd0, T j = some nd0 ∧ (∀ i ∈ nd.kids, i ∈ nd0.kids ∧ i ≠ x) ∧ nd.par = nd0.par ∧ nd.w = nd0.w := fun {j nd} e => by
  refine xo1_6 (cut_at hq e) fun nd0 h1 h2 h3 h4 h5 h6 => ?_
  refine ⟨nd0, h1, fun i hi => ?_, h4, h2⟩
  rw [h5] at hi
  by_cases w : j = q
  ·rw [if_pos w] at hi
   subst w
   rw [hq] at h1; obtain rfl := Option.some.inj h1
   have nd := W.nodup _ _ hq
   exact ⟨List.mem_of_mem_erase hi, fun w => by rw [w] at hi; exact absurd hi (List.Nodup.not_mem_erase nd)⟩
  ·rw [if_neg w] at hi
   refine ⟨hi, fun z => ?_⟩
   subst z
   refine xm_aaeaa (W.down _ _ h1 _ hi) fun _ _ nd' g1 g2 => ?_
   rw [hx] at g1; obtain rfl := Option.some.inj g1
   rw [hp] at g2; obtain rfl := Option.some.inj g2
   exact w rfl
 refine ⟨?_, fun i nd e => ?_, fun i nd e h0 hy => ?_, fun p np e i hi => ?_, fun p np e => ?_, fun p np e => ?_, ?_, ?_⟩
 ·refine xo1_3 W.root fun r h1 h2 h3 => ?_
  refine xo1_5 (cut_to (x := x) hq h1) fun r' g1 g2 g3 g4 g5 => ?_
  exact ⟨r', g1, g3.trans h2, g4.trans h3⟩
 ·obtain ⟨nd0, h1, h2, _⟩ := cut_at hq e; rw [h2]; exact W.w _ _ h1
 ·refine xo1_5 (cut_at hq e) fun nd0 h1 h2 h3 h4 _ => ?_
  refine xo2_3 (W.up _ _ h1 h0 id) fun p np k1 k2 k3 => ?_
  refine xo1_5 (cut_to (x := x) hq k2) fun np' g1 g2 g3 g4 g5 => ?_
  refine ⟨p, np', h4.trans k1, g1, ?_⟩
  rw [g5]
  split
  ·rename_i w
   rw [w, hq] at k2; obtain rfl := Option.some.inj k2
   exact (List.mem_erase_of_ne fun w => hy w).mpr k3
  ·exact k3
 ·refine xo1_4 (sub e) fun nd0 h1 h2 h3 _ => ?_
  refine xo0_2 (h2 i hi) fun g1 g2 => ?_
  refine xm_aaeaa (W.down _ _ h1 i g1) fun k1 _ nd k3 k4 => ?_
  refine xo1_5 (cut_to (x := x) hq k3) fun nd' m1 m2 m3 m4 m5 => ?_
  exact ⟨k1, fun w => g2 w, nd', m1, m4.trans k4⟩
 ·refine xo1_6 (cut_at hq e) fun nd0 h1 h2 h3 h4 h5 h6 => ?_
  rw [h5, h6]
  split
  ·have nd := W.nodup _ _ hq
   refine (requeue_perm _ _).trans ?_
   rw [List.Nodup.erase_eq_filter nd]
   refine ((W.kq _ _ hq).filter _).trans (.of_eq (List.filter_congr fun y _ => ?_))
   by_cases w : y = x <;> simp [w]
  ·exact W.kq _ _ h1
 ·refine xo1_6 (cut_at hq e) fun nd0 h1 h2 h3 h4 h5 h6 => ?_
  rw [h5]
  split
  ·exact (W.nodup _ _ hq).erase x
  ·exact W.nodup _ _ h1
 ·refine xo1_1 W.rank fun rk r => ?_
  refine ⟨rk, fun p np e i hi => ?_⟩
  refine xo1_3 (sub e) fun nd0 h1 h2 _ => ?_
  exact r _ _ h1 i (h2 i hi).1
 ·refine xo1_2 W.fin fun ids h1 h2 => ?_
  refine ⟨ids, h1, fun i hi => h2 i ?_⟩
  refine xo1_1 (Option.ne_none_iff_exists'.mp hi) fun nd e => ?_
  refine xo1_2 (cut_at hq e) fun nd0 h1 _ => ?_
  rw [h1]; nofun
end
end
section
open PySem
section
variable {M : Nat} {T T' : Tr} {x p q i c : Int} {np nx nq nc nd : Nd} {D : Int → Prop}
theorem hung_at {ks : List Int} (h : T c = some nc) {j : Int} {nd : Nd} (e : hung T c ks nc j = some nd) : ∃ nd0, T j = some nd0 ∧ nd.w = nd0.w ∧ nd.act = nd0.act ∧ (j = c → nd.par = nd0.par ∧ nd.kids = nc.kids ++ ks ∧ nd.queue = pushAll nc.lw ks nc.queue) ∧ (j ≠ c → nd.kids = nd0.kids ∧ nd.queue = nd0.queue ∧ nd.par = if j ∈ ks then some c else nd0.par) := by
 unfold hung at e
 by_cases w : j = c
 ·rw [if_pos w] at e; cases e; subst w; exact ⟨nc, h, rfl, rfl, fun _ => ⟨rfl, rfl, rfl⟩, fun w => (w rfl).elim⟩
 ·rw [if_neg w] at e
  by_cases m : j ∈ ks
  ·rw [if_pos m] at e
   refine xo1_2 (Option.map_eq_some_iff.mp e) fun nd0 e1 e2_ => ?_; obtain rfl := e2_
   exact ⟨nd0, e1, rfl, rfl, fun z => (w z).elim, fun _ => ⟨rfl, rfl, by rw [if_pos m]⟩⟩
  ·rw [if_neg m] at e
   exact ⟨nd, e, rfl, rfl, fun z => (w z).elim, fun _ => ⟨rfl, rfl, by rw [if_neg m]⟩⟩
theorem hung_to {ks : List Int} (h : T c = some nc) {j : Int} {nd : Nd} (e : T j = some nd) : ∃ nd', hung T c ks nc j = some nd' ∧ nd'.w = nd.w ∧ nd'.act = nd.act ∧ (j = c → nd'.par = nd.par ∧ nd'.kids = nc.kids ++ ks) ∧ (j ≠ c → nd'.kids = nd.kids ∧ nd'.par = if j ∈ ks then some c else nd.par) := by
 unfold hung
 by_cases w : j = c
 ·rw [if_pos w]; subst w; rw [h] at e; cases e; exact ⟨_, rfl, rfl, rfl, fun _ => ⟨rfl, rfl⟩, fun w => (w rfl).elim⟩
 ·rw [if_neg w]
  by_cases m : j ∈ ks
  ·rw [if_pos m, e]; exact ⟨_, rfl, rfl, rfl, fun z => (w z).elim, fun _ => ⟨rfl, by rw [if_pos m]⟩⟩
  ·rw [if_neg m]; exact ⟨nd, e, rfl, rfl, fun z => (w z).elim, fun _ => ⟨rfl, by rw [if_neg m]⟩⟩
theorem WD.hang (W : WD M T D) {ks : List Int} (hc : T c = some nc) (hk : ∀ k ∈ ks, D k ∧ k ≠ 0 ∧ T k ≠ none ∧ k ≠ c ∧ ¬ SB T k c) (nd : ks.Nodup) : WD M (hangAll T c ks) fun i => D i ∧ i ∉ ks := by
 rw [hangAll_eq ks hc fun k h => ⟨(hk k h).2.2.1, (hk k h).2.2.2.1⟩]
 have notc : c ∉ ks := fun h => (hk c h).2.2.2.1 rfl
 refine ⟨?_, fun i nd e => ?_, fun i nd e h0 hy => ?_, fun p np e i hi => ?_, fun p np e => ?_, fun p np e => ?_, ?_, ?_⟩
 ·refine xo1_3 W.root fun r h1 h2 h3 => ?_
  refine xo1_5 (hung_to (ks := ks) hc h1) fun r' g1 g2 g3 g4 g5 => ?_
  refine ⟨r', g1, g3.trans h2, ?_⟩
  by_cases w : (0 : Int) = c
  ·exact (g4 w).1.trans h3
  ·rw [(g5 w).2, if_neg fun m => (hk 0 m).2.1 rfl]; exact h3
 ·obtain ⟨nd0, h1, h2, _⟩ := hung_at hc e; rw [h2]; exact W.w _ _ h1
 ·refine xo1_5 (hung_at hc e) fun nd0 h1 h2 h3 h4 h5 => ?_
  by_cases m : i ∈ ks
  ·have ic : i ≠ c := fun w => notc (w ▸ m)
   refine xo1_5 (hung_to (ks := ks) hc hc) fun nc' g1 g2 g3 g4 g5 => ?_
   exact ⟨c, nc', by rw [(h5 ic).2.2, if_pos m], g1, by rw [(g4 rfl).2]; exact List.mem_append_right _ m⟩
  ·have hD : ¬ D i := fun w => hy ⟨w, m⟩
   refine xo2_3 (W.up _ _ h1 h0 hD) fun p np k1 k2 k3 => ?_
   refine xo1_5 (hung_to (ks := ks) hc k2) fun np' g1 g2 g3 g4 g5 => ?_
   refine ⟨p, np', ?_, g1, ?_⟩
   ·by_cases w : i = c
    ·exact (h4 w).1.trans k1
    ·rw [(h5 w).2.2, if_neg m]; exact k1
   ·by_cases w : p = c
    ·rw [(g4 w).2]; subst w; rw [hc] at k2; cases k2; exact List.mem_append_left _ k3
    ·rw [(g5 w).1]; exact k3
 ·refine xo1_5 (hung_at hc e) fun nd0 h1 h2 h3 h4 h5 => ?_
  have old : ∀ {p' np'}, T p' = some np' → i ∈ np'.kids → p' = p → i ≠ 0 ∧ ¬ (D i ∧ i ∉ ks) ∧ ∃ nd, hung T c ks nc i = some nd ∧ nd.par = some p := fun {p' np'} e' hi' ep => by
   subst ep
   refine xm_aaeaa (W.down _ _ e' i hi') fun k1 k2 nd k3 k4 => ?_
   refine xo1_5 (hung_to (ks := ks) hc k3) fun nd' m1 m2 m3 m4 m5 => ?_
   refine ⟨k1, fun w => k2 w.1, nd', m1, ?_⟩
   by_cases w : i = c
   ·exact (m4 w).1.trans k4
   ·rw [(m5 w).2, if_neg fun m => k2 (hk i m).1]; exact k4
  by_cases w : p = c
  ·rw [(h4 w).2.1] at hi
   rcases List.mem_append.mp hi with hi | hi
   ·exact old hc hi w.symm
   ·refine xo0_5 (hk i hi) fun z1 z2 z3 z4 _ => ?_
    refine xo1_1 (Option.ne_none_iff_exists'.mp z3) fun nk e3 => ?_
    refine xo1_5 (hung_to (ks := ks) hc e3) fun nd' m1 m2 m3 m4 m5 => ?_
    exact ⟨z2, fun w => w.2 hi, nd', m1, by rw [(m5 z4).2, if_pos hi, w]⟩
  ·rw [(h5 w).1] at hi; exact old h1 hi rfl
 ·refine xo1_5 (hung_at hc e) fun nd0 h1 h2 h3 h4 h5 => ?_
  by_cases w : p = c
  ·rw [(h4 w).2.1, (h4 w).2.2]
   exact (pushAll_perm _ _ _).trans ((W.kq _ _ hc).append_right _)
  ·rw [(h5 w).1, (h5 w).2.1]; exact W.kq _ _ h1
 ·refine xo1_5 (hung_at hc e) fun nd0 h1 h2 h3 h4 h5 => ?_
  by_cases w : p = c
  ·rw [(h4 w).2.1]
   refine List.nodup_append.mpr ⟨W.nodup _ _ hc, nd, fun a ha b hb e => ?_⟩
   subst e
   exact (W.down _ _ hc a ha).2.1 (hk a hb).1
  ·rw [(h5 w).1]; exact W.nodup _ _ h1
 ·refine xo1_1 W.rank fun rk r => ?_
  have dec : ∀ i, Decidable (∃ k ∈ ks, i = k ∨ SB T k i) := fun i => Classical.propDecidable _
  refine ⟨fun i => rk i + if (∃ k ∈ ks, i = k ∨ SB T k i) then rk c + 1 else 0, fun p np e i hi => ?_⟩
  have cb : ¬ ∃ k ∈ ks, c = k ∨ SB T k c := fun ⟨k, h1, h2⟩ => h2.elim (fun w => notc (w ▸ h1)) (hk k h1).2.2.2.2
  refine xo1_5 (hung_at hc e) fun nd0 h1 h2 h3 h4 h5 => ?_
  have edge : i ∈ nd0.kids → rk p + (if (∃ k ∈ ks, p = k ∨ SB T k p) then rk c + 1 else 0) < rk i + (if (∃ k ∈ ks, i = k ∨ SB T k i) then rk c + 1 else 0) := fun hi' => by
   have lt := r _ _ h1 i hi'
   by_cases b : ∃ k ∈ ks, p = k ∨ SB T k p
   ·have b' : ∃ k ∈ ks, i = k ∨ SB T k i := by
     revert b; refine fun z_ => xo1_2 z_ fun k m b => ?_; clear z_
     refine ⟨k, m, .inr ?_⟩
     rcases b with rfl | b
     ·exact .kid h1 hi'
     ·exact .more b h1 hi'
    rw [if_pos b, if_pos b']; omega
   ·rw [if_neg b]
    omega
  show rk p + (if (∃ k ∈ ks, p = k ∨ SB T k p) then rk c + 1 else 0) < rk i + (if (∃ k ∈ ks, i = k ∨ SB T k i) then rk c + 1 else 0)
  by_cases w : p = c
  ·rw [(h4 w).2.1] at hi
   rcases List.mem_append.mp hi with hi | hi
   ·refine edge ?_
    subst w; rw [hc] at h1; cases h1; exact hi
   ·rw [w, if_neg cb, if_pos ⟨i, hi, .inl rfl⟩]; omega
  ·rw [(h5 w).1] at hi; exact edge hi
 ·refine xo1_2 W.fin fun ids h1 h2 => ?_
  refine ⟨ids, h1, fun i hi => h2 i ?_⟩
  refine xo1_1 (Option.ne_none_iff_exists'.mp hi) fun nd e => ?_
  refine xo1_2 (hung_at hc e) fun nd0 h1 _ => ?_
  rw [h1]; nofun
theorem WD.strip (W : WD M T D) (hp : T p = some np) (lw : Int) : WD M (setN T p { np with kids := [], queue := [], lw := lw }) fun i => D i ∨ i ∈ np.kids := by
 have at' : ∀ {j nd}, setN T p { np with kids := [], queue := [], lw := lw } j = some nd → ∃ nd0, T j = some nd0 ∧ nd.w = nd0.w ∧ nd.act = nd0.act ∧ nd.par = nd0.par ∧ (j = p → nd.kids = [] ∧ nd.queue = []) ∧ (j ≠ p → nd.kids = nd0.kids ∧ nd.queue = nd0.queue) := fun {j nd} e => by
  by_cases w : j = p
  ·subst w; rw [setN_same] at e; cases e; exact ⟨np, hp, rfl, rfl, rfl, fun _ => ⟨rfl, rfl⟩, fun w => (w rfl).elim⟩
  ·rw [setN_ne _ _ w] at e; exact ⟨nd, e, rfl, rfl, rfl, fun z => (w z).elim, fun _ => ⟨rfl, rfl⟩⟩
 have to : ∀ {j nd}, T j = some nd → ∃ nd', setN T p { np with kids := [], queue := [], lw := lw } j = some nd' ∧ nd'.act = nd.act ∧ nd'.par = nd.par ∧ (j ≠ p → nd'.kids = nd.kids) := fun {j nd} e => by
  by_cases w : j = p
  ·subst w; rw [hp] at e; cases e; exact ⟨_, setN_same .., rfl, rfl, fun w => (w rfl).elim⟩
  ·exact ⟨nd, (setN_ne _ _ w).trans e, rfl, rfl, fun _ => rfl⟩
 refine ⟨?_, fun i nd e => ?_, fun i nd e h0 hy => ?_, fun p' np' e i hi => ?_, fun p' np' e => ?_, fun p' np' e => ?_, ?_, ?_⟩
 ·refine xo1_3 W.root fun r h1 h2 h3 => ?_
  refine xo1_4 (to h1) fun r' g1 g2 g3 _ => ?_
  exact ⟨r', g1, g2.trans h2, g3.trans h3⟩
 ·obtain ⟨nd0, h1, h2, _⟩ := at' e; rw [h2]; exact W.w _ _ h1
 ·refine xo1_5 (at' e) fun nd0 h1 h2 h3 h4 _ => ?_
  refine xo2_3 (W.up _ _ h1 h0 fun w => hy (.inl w)) fun p' np' k1 k2 k3 => ?_
  refine xo1_4 (to k2) fun nd' m1 m2 m3 m4 => ?_
  have ne : p' ≠ p := fun w => by subst w; rw [hp] at k2; cases k2; exact hy (.inr k3)
  exact ⟨p', nd', h4.trans k1, m1, by rw [m4 ne]; exact k3⟩
 ·refine xo1_6 (at' e) fun nd0 h1 h2 h3 h4 h5 h6 => ?_
  by_cases w : p' = p
  ·rw [(h5 w).1] at hi; exact absurd hi nofun
  ·rw [(h6 w).1] at hi
   refine xm_aaeaa (W.down _ _ h1 i hi) fun k1 k2 nd k3 k4 => ?_
   refine xo1_4 (to k3) fun nd' m1 m2 m3 m4 => ?_
   refine ⟨k1, fun z => ?_, nd', m1, m3.trans k4⟩
   rcases z with z | z
   ·exact k2 z
   ·refine xm_aaeaa (W.down _ _ hp i z) fun _ _ nd2 g3 g4 => ?_
    rw [k3] at g3; obtain rfl := Option.some.inj g3
    rw [k4] at g4; obtain rfl := Option.some.inj g4
    exact w rfl
 ·refine xo1_6 (at' e) fun nd0 h1 h2 h3 h4 h5 h6 => ?_
  by_cases w : p' = p
  ·rw [(h5 w).1, (h5 w).2]; exact .refl _
  ·rw [(h6 w).1, (h6 w).2]; exact W.kq _ _ h1
 ·refine xo1_6 (at' e) fun nd0 h1 h2 h3 h4 h5 h6 => ?_
  by_cases w : p' = p
  ·rw [(h5 w).1]; exact .nil
  ·rw [(h6 w).1]; exact W.nodup _ _ h1
 ·refine xo1_1 W.rank fun rk r => ?_
  refine ⟨rk, fun p' np' e i hi => ?_⟩
  refine xo1_6 (at' e) fun nd0 h1 h2 h3 h4 h5 h6 => ?_
  by_cases w : p' = p
  ·rw [(h5 w).1] at hi; exact absurd hi nofun
  ·rw [(h6 w).1] at hi; exact r _ _ h1 i hi
 ·refine xo1_2 W.fin fun ids h1 h2 => ?_
  refine ⟨ids, h1, fun i hi => h2 i ?_⟩
  refine xo1_1 (Option.ne_none_iff_exists'.mp hi) fun nd e => ?_
  refine xo1_2 (at' e) fun nd0 h1 _ => ?_
  rw [h1]; nofun
theorem WD.gone (W : WD M T D) (hx : T x = some nx) (hD : D x) (h0 : x ≠ 0) : WD M (delN T x) fun i => (D i ∧ i ≠ x) ∨ i ∈ nx.kids := by
 have at' : ∀ {j nd}, delN T x j = some nd → j ≠ x ∧ T j = some nd := fun {j nd} e => by
  unfold delN at e
  split at e
  ·exact nsE e
  ·exact ⟨‹_›, e⟩
 have to : ∀ {j nd}, T j = some nd → j ≠ x → delN T x j = some nd := fun e w => by unfold delN; rw [if_neg w]; exact e
 refine ⟨?_, fun i nd e => W.w _ _ (at' e).2, fun i nd e h0 hy => ?_, fun p' np' e i hi => ?_, fun p' np' e => W.kq _ _ (at' e).2, fun p' np' e => W.nodup _ _ (at' e).2, ?_, ?_⟩
 ·refine xo1_3 W.root fun r h1 h2 h3 => ?_
  exact ⟨r, to h1 h0.symm, h2, h3⟩
 ·refine xo0_2 (at' e) fun e1 e2 => ?_
  refine xo2_3 (W.up _ _ e2 h0 fun w => hy (.inl ⟨w, e1⟩)) fun p' np' k1 k2 k3 => ?_
  exact ⟨p', np', k1, to k2 (fun w => by rw [w, hx] at k2; cases k2; exact hy (.inr k3)), k3⟩
 ·refine xo0_2 (at' e) fun e1 e2 => ?_
  refine xm_aaeaa (W.down _ _ e2 i hi) fun k1 k2 nd k3 k4 => ?_
  refine ⟨k1, fun z => ?_, nd, to k3 (fun w => k2 (w ▸ hD)), k4⟩
  rcases z with z | z
  ·exact k2 z.1
  ·refine xm_aaeaa (W.down _ _ hx i z) fun _ _ nd2 g3 g4 => ?_
   rw [k3] at g3; obtain rfl := Option.some.inj g3
   rw [k4] at g4; obtain rfl := Option.some.inj g4
   exact e1 rfl
 ·refine xo1_1 W.rank fun rk r => ?_
  exact ⟨rk, fun p' np' e i hi => r _ _ (at' e).2 i hi⟩
 ·refine xo1_2 W.fin fun ids h1 h2 => ?_
  refine ⟨ids, h1, fun i hi => h2 i ?_⟩
  refine xo1_1 (Option.ne_none_iff_exists'.mp hi) fun nd e => ?_
  rw [(at' e).2]; nofun
theorem WD.weak {D' : Int → Prop} (W : WD M T D) (h : ∀ i, D i ↔ D' i) : WD M T D' := by
 have : D = D' := funext fun i => propext (h i)
 exact this ▸ W
theorem WD.more {N : Nat} (W : WD M T D) (h : M ≤ N) : WD N T D := ⟨W.root, W.w, W.up, W.down, W.kq, W.nodup, W.rank, let ⟨ids, h1, h2⟩ := W.fin; ⟨ids, Nat.le_trans h1 h, h2⟩⟩
end
end
section
open PySem
section
variable {M : Nat} {T T' : Tr} {x p q i c : Int} {np nx nq nc nd : Nd} {D : Int → Prop}
theorem SB.up {rk : Int → Nat} (r : ∀ p np, T p = some np → ∀ i ∈ np.kids, rk p < rk i) (h : SB T x i) : rk x < rk i := by
 induction h with
 | kid a b => exact r _ _ a _ b
 | more _ a b ih => exact Nat.lt_trans ih (r _ _ a _ b)
theorem SB.none (hx : T x = some nx) (h0 : nx.kids = []) : ¬ SB T x i := fun h => by
 induction h with
 | kid a b => rw [hx] at a; cases a; rw [h0] at b; exact absurd b nofun
 | more _ _ _ ih => exact ih
theorem WD.leaf (W : WD M T (· = x)) (hx : T x = some nx) (hp : T p = some np) (h0 : x ≠ 0) (ne : p ≠ x) (nb : ¬ SB T x p) : WT M (addChild T p x) := by
 rw [addChild_hang]
 refine (W.hang (ks := [x]) hp (fun k hk => ?_) (by simp)).weak fun i => ⟨fun h => h.2 (by rw [h.1]; exact .head _), fun h => h.elim⟩
 rcases List.mem_singleton.mp hk with rfl
 exact ⟨rfl, h0, by rw [hx]; nofun, ne.symm, nb⟩
theorem WD.excl (W : WD M T (· = x)) (hx : T x = some nx) (hp : T p = some np) (h0 : x ≠ 0) (ne : p ≠ x) (nb : ¬ SB T x p) (hM : M ≤ 400) : WT M (addExcl T p x) ∧ Hang (addChild (setN T p { np with kids := [], queue := [], lw := 0 }) p x) x np.kids := by
 have W1 := W.strip hp 0
 have x1 : setN T p { np with kids := [], queue := [], lw := 0 } x = some nx := (setN_ne _ _ ne.symm).trans hx
 have sub1 : ∀ {a i}, SB (setN T p { np with kids := [], queue := [], lw := 0 }) a i → SB T a i := fun h => by
  have k : ∀ {u nu i}, setN T p { np with kids := [], queue := [], lw := 0 } u = some nu → i ∈ nu.kids → ∃ nu', T u = some nu' ∧ i ∈ nu'.kids := fun {u nu i} e hi => by
   by_cases w : u = p
   ·subst w; rw [setN_same] at e; cases e; exact absurd hi nofun
   ·rw [setN_ne _ _ w] at e; exact ⟨nu, e, hi⟩
  induction h with
  | kid a b => obtain ⟨nu', g1, g2⟩ := k a b; exact .kid g1 g2
  | more _ a b ih => obtain ⟨nu', g1, g2⟩ := k a b; exact .more ih g1 g2
 have xk : x ∉ np.kids := fun h => (W.down _ _ hp x h).2.1 rfl
 have W2 := (W1.hang (ks := [x]) (setN_same ..) (fun k hk => by
  rcases List.mem_singleton.mp hk with rfl
  exact ⟨.inl rfl, h0, by rw [x1]; nofun, ne.symm, fun h => nb (sub1 h)⟩) (by simp)).weak (D' := fun i => i ∈ np.kids) fun i => ⟨fun h => h.1.resolve_left fun w => h.2 (by rw [w]; exact .head _), fun h => ⟨.inr h, fun w => xk (by rcases List.mem_singleton.mp w with rfl; exact h)⟩⟩
 rw [← addChild_hang] at W2
 have e2 := addChild_eq (p := p) (c := x) (setN_same T p { np with kids := [], queue := [], lw := 0 }) x1
 have x2 : addChild (setN T p { np with kids := [], queue := [], lw := 0 }) p x x = some { nx with par := some p } := by rw [e2, setN_ne _ _ ne.symm]; exact setN_same ..
 have kd : ∀ k ∈ np.kids, k ≠ 0 ∧ addChild (setN T p { np with kids := [], queue := [], lw := 0 }) p x k ≠ none ∧ k ≠ x ∧ k ≠ p := fun k hk => by
  refine xm_aaeaa (W.down _ _ hp k hk) fun k1 k2 nd k3 k4 => ?_
  refine ⟨k1, ?_, k2, fun w => W.notSelf hp (w ▸ hk)⟩
  rw [e2]
  exact setN_dom (setN_dom (setN_dom (by rw [k3]; nofun)))
 refine xo1_1 W.rank fun rk r => ?_
 have edge : ∀ {u nu i}, addChild (setN T p { np with kids := [], queue := [], lw := 0 }) p x u = some nu → i ∈ nu.kids → (u = p ∧ i = x) ∨ ∃ nu', T u = some nu' ∧ i ∈ nu'.kids := fun {u nu i} e hi => by
  rw [e2] at e
  by_cases w : u = p
  ·subst w; rw [setN_same] at e; cases e; exact .inl ⟨rfl, by simpa using hi⟩
  ·rw [setN_ne _ _ w] at e
   by_cases w' : u = x
   ·subst w'; rw [setN_same] at e; cases e; exact .inr ⟨nx, hx, hi⟩
   ·rw [setN_ne _ _ w', setN_ne _ _ w] at e; exact .inr ⟨nu, e, hi⟩
 have low : ∀ {k i}, k ∈ np.kids → SB (addChild (setN T p { np with kids := [], queue := [], lw := 0 }) p x) k i → rk k < rk i ∨ i = x ∨ SB T x i := fun {k i} hk h => by
  induction h with
  | kid a b =>
   rcases edge a b with ⟨w, rfl⟩ | ⟨nu', g1, g2⟩
   ·exact .inr (.inl rfl)
   ·exact .inl (r _ _ g1 _ g2)
  | more _ a b ih =>
   rcases edge a b with ⟨w, rfl⟩ | ⟨nu', g1, g2⟩
   ·exact .inr (.inl rfl)
   ·rcases ih with ih | rfl | ih
    ·exact .inl (Nat.lt_trans ih (r _ _ g1 _ g2))
    ·exact .inr (.inr (.kid g1 g2))
    ·exact .inr (.inr (.more ih g1 g2))
 have notp : ∀ {k}, k ∈ np.kids → ¬ SB (addChild (setN T p { np with kids := [], queue := [], lw := 0 }) p x) k p := fun hk h => by
  have := r _ _ hp _ hk
  rcases low hk h with h | h | h
  ·omega
  ·exact ne h
  ·exact nb h
 have notx : ∀ {k}, k ∈ np.kids → ¬ SB (addChild (setN T p { np with kids := [], queue := [], lw := 0 }) p x) k x := fun {k} hk h => by
  have fr : ∀ {u nu}, addChild (setN T p { np with kids := [], queue := [], lw := 0 }) p x u = some nu → x ∈ nu.kids → u = p := fun a b => by
   rcases edge a b with w | ⟨nu', g1, g2⟩
   ·exact w.1
   ·exact ((W.down _ _ g1 x g2).2.1 rfl).elim
  cases h with
  | kid a b => exact (kd k hk).2.2.2 (fr a b)
  | more h a b => have := fr a b; subst this; exact notp hk h
 have e3 : addExcl T p x = hangAll (addChild (setN T p { np with kids := [], queue := [], lw := 0 }) p x) x np.kids := by unfold addExcl; rw [hp]; rfl
 refine ⟨?_, ?_⟩
 ·rw [e3]
  exact (W2.hang (ks := np.kids) x2 (fun k hk => ⟨hk, (kd k hk).1, (kd k hk).2.1, (kd k hk).2.2.1, notx hk⟩) (W.nodup _ _ hp)).weak fun i => ⟨fun h => h.2 h.1, fun h => h.elim⟩
 ·have l1 := W.kidsLen hp
  have l2 := W.kidsLen hx
  have l3 := W.queueLen hx
  refine Hang.of np.kids x2 (fun k hk => ⟨(kd k hk).2.1, (kd k hk).2.2.1.symm⟩) (fun z hz => W2.kid x2 (W2.inQ x2 hz)) ?_ ?_
  ·show nx.queue.length + np.kids.length ≤ 1000; omega
  ·show nx.kids.length + np.kids.length ≤ 1000; omega
theorem WD.putIn (W : WT M T) (h : T x = none) (hp : T p = some np) (h0 : x ≠ 0) (ne : p ≠ x) {w : Int} (hw : 1 ≤ w ∧ w ≤ 256) (hM : M < 400) (ex : Bool) : WT (M + 1) (Mine.putIn T p x w ex) ∧ (ex = true → Hang (addChild (setN (setN T x (nd0 w)) p { np with kids := [], queue := [], lw := 0 }) p x) x np.kids) := by
 have W1 := W.new h h0 hw
 have hx := setN_same T x (nd0 w)
 have hp1 : setN T x (nd0 w) p = some np := (setN_ne _ _ ne).trans hp
 have nb : ¬ SB (setN T x (nd0 w)) x p := SB.none hx rfl
 have E := W1.excl hx hp1 h0 ne nb (by omega)
 refine ⟨?_, fun _ => E.2⟩
 unfold Mine.putIn
 split
 ·exact E.1
 ·exact W1.leaf hx hp1 h0 ne nb
theorem cut_kids (hq : T q = some nq) (hx : T x = some nx) (ne : q ≠ x) : cutChild T q x x = some nx := by
 unfold cutChild; rw [hq]; exact (setN_ne _ _ ne.symm).trans hx
theorem WD.moved (W : WT M T) (hx : T x = some nx) (hq : nx.par = some q) (hp : T p ≠ none) (h0 : x ≠ 0) (ne : p ≠ x) (nb : ¬ SB T x p) (hM : M ≤ 400) (ex : Bool) : ∃ nq np, Gives T q x nq nx ∧ Takes (cutChild T q x) p np ∧ WT M (Mine.moved T q p x ex) ∧
  (ex = true → Hang (addChild (setN (cutChild T q x) p { np with kids := [], queue := [], lw := 0 }) p x) x np.kids) := by
 refine xo2_2 (W.gives (by omega) hx h0 id) fun q' nq e g => ?_
 rw [hq] at e; obtain rfl := Option.some.inj e
 have W1 := W.cut g.at_ hx hq h0
 have hx1 := cut_kids g.at_ hx g.ne
 refine xo1_1 (Option.ne_none_iff_exists'.mp hp) fun np0 hp0 => ?_
 refine xo1_2 (cut_to (x := x) g.at_ hp0) fun np hp1 e2_ => ?_; clear e2_
 have sbc : ∀ {i}, SB (cutChild T q x) x i → SB T x i := fun h => by
  have k : ∀ {u nu i}, cutChild T q x u = some nu → i ∈ nu.kids → ∃ nu', T u = some nu' ∧ i ∈ nu'.kids := fun {u nu i} e hi => by
   refine xo1_6 (cut_at g.at_ e) fun nd0 h1 h2 h3 h4 h5 h6 => ?_
   refine ⟨nd0, h1, ?_⟩
   rw [h5] at hi
   split at hi
   ·rename_i w; subst w; rw [g.at_] at h1; cases h1; exact List.mem_of_mem_erase hi
   ·exact hi
  induction h with
  | kid a b => obtain ⟨nu', g1, g2⟩ := k a b; exact .kid g1 g2
  | more _ a b ih => obtain ⟨nu', g1, g2⟩ := k a b; exact .more ih g1 g2
 have nb1 : ¬ SB (cutChild T q x) x p := fun h => nb (sbc h)
 have E := W1.excl hx1 hp1 h0 ne nb1 hM
 refine ⟨nq, np, g, W1.takes (by omega) hp1, ?_, fun _ => E.2⟩
 unfold Mine.moved
 split
 ·exact E.1
 ·exact W1.leaf hx1 hp1 h0 ne nb1
theorem WD.takeOut (W : WT M T) (hx : T x = some nx) (h0 : x ≠ 0) (hM : M ≤ 400) : ∃ q nq, nx.par = some q ∧ Gives T q x nq nx ∧ Hang (cutChild T q x) q nx.kids ∧ nx.kids.length ≤ 1000 ∧ WT M (Mine.takeOut T q x) := by
 refine xo2_2 (W.gives (by omega) hx h0 id) fun q nq hq g => ?_
 have W1 := W.cut g.at_ hx hq h0
 have hx1 := cut_kids g.at_ hx g.ne
 refine xo1_2 (cut_to (x := x) g.at_ g.at_) fun nq1 hq1 e2_ => ?_; clear e2_
 have lk := W.kidsLen hx
 have l1 := W1.kidsLen hq1
 have l2 := W1.queueLen hq1
 refine xo1_1 W.rank fun rk r => ?_
 have rq := r _ _ g.at_ x g.mem
 have kd : ∀ k ∈ nx.kids, k ≠ 0 ∧ cutChild T q x k ≠ none ∧ q ≠ k ∧ k ≠ x := fun k hk => by
  refine xm_aaeaa (W1.down _ _ hx1 k hk) fun k1 k2 nd k3 k4 => ?_
  have := r _ _ hx k hk
  exact ⟨k1, by rw [k3]; nofun, fun w => by subst w; omega, k2⟩
 refine ⟨q, nq, hq, g, Hang.of _ hq1 (fun k hk => ⟨(kd k hk).2.1, (kd k hk).2.2.1⟩) (fun z hz => W1.kid hq1 (W1.inQ hq1 hz)) (by omega) (by omega), by omega, ?_⟩
 have W2 := (W1.gone hx1 rfl h0).weak (D' := fun i => i ∈ nx.kids) fun i => ⟨fun h => h.elim (fun h => (h.2 h.1).elim) id, .inr⟩
 have hq2 : delN (cutChild T q x) x q = some nq1 := by unfold delN; rw [if_neg g.ne]; exact hq1
 have sub : ∀ {a i}, SB (delN (cutChild T q x) x) a i → rk a < rk i := fun h => by
  refine SB.up (fun p np e i hi => ?_) h
  unfold delN at e
  split at e
  ·exact nsE e
  ·refine xo1_6 (cut_at g.at_ e) fun nd0 h1 h2 h3 h4 h5 h6 => ?_
   rw [h5] at hi
   split at hi
   ·rename_i w; subst w; exact r _ _ g.at_ i (List.mem_of_mem_erase hi)
   ·exact r _ _ h1 i hi
 have W3 := (W2.hang (ks := nx.kids) hq2 (fun k hk => ⟨hk, (kd k hk).1, by unfold delN; rw [if_neg (kd k hk).2.2.2]; exact (kd k hk).2.1, (kd k hk).2.2.1.symm, fun h => by
  have a := sub h
  have b := r _ _ hx k hk
  omega⟩) (W.nodup _ _ hx)).weak (D' := fun _ => False) fun i => ⟨fun h => h.2 h.1, fun h => h.elim⟩
 have e : Mine.takeOut T q x = hangAll (delN (cutChild T q x) x) q nx.kids := by
  unfold Mine.takeOut rmChild
  rw [if_pos rfl, hx]
  dsimp only
  rw [hangAll_eq nx.kids hq1 fun k hk => ⟨(kd k hk).2.1, (kd k hk).2.2.1.symm⟩, hangAll_eq nx.kids hq2 fun k hk => ⟨by unfold delN; rw [if_neg (kd k hk).2.2.2]; exact (kd k hk).2.1, (kd k hk).2.2.1.symm⟩]
  funext j
  unfold delN hung
  by_cases w : j = x
  ·have w1 : j ≠ q := fun z => g.ne (z ▸ w)
   have w2 : j ∉ nx.kids := fun z => (kd j z).2.2.2 w
   rw [if_pos w, if_neg w1, if_neg w2]
   dsimp only
   rw [if_pos w]
  ·rw [if_neg w]
   dsimp only
   rw [if_neg w]
 rw [e]; exact W3
end
end
section
open PySem PySem.W PyProof.Rows
noncomputable def parOf (T : Tr) (x : Int) : Int := match T x with
 | some nx => nx.par.getD 0
 | none => 0
abbrev wok (w : Int) : Prop := 1 ≤ w ∧ w ≤ 256
noncomputable def toldOf (T : Tr) (kind x w : Int) : AV :=
 if kind < 3 then (if T x = none then (if wok w then .none else .str 22) else .str 111)
 else if T x = none then .str 112
 else if kind = 3 then (if wok w then .none else .str 22) else .none
noncomputable def treeOf (T : Tr) (kind x p w : Int) (ex : Bool) : Tr :=
 if kind < 3 then (if T x = none then (if wok w then putIn T p x w ex else T) else T)
 else match T x with
  | none => T
  | some nx => if kind = 3 then (if wok w then moved (setN T x { nx with w := w }) (parOf T x) p x ex else T)
   else if kind < 6 then setN T x { nx with act := false } else if kind = 6 then setN T x { nx with act := true } else takeOut T (parOf T x) x
section
variable {C : Nat → List AV → St → R AV} {E : Est} {k n : Nat} {h : Hp} {L : Lo} {M a d : Nat} {A cl ql : Ad} {G : Hp} {Φ : Fo} {t : Nat} {i x p q : Int} {nd nq nx : Nd} {T : Tr} {mx : Int} {es : List (AV × AV)} {Q : Pst AV}
theorem dget_dput (es : List (AV × AV)) (k v k' : AV) : dget? (dput es k v) k' = if k' = k then some v else dget? es k' := by
 induction es with
 | nil =>
  show (if k' = k then some v else none) = _
  rfl
 | cons p r ih =>
  obtain ⟨j, w⟩ := p
  unfold dput
  split
  ·rename_i e; subst e
   show (if k' = k then some v else dget? r k') = if k' = k then some v else (if k' = k then some w else dget? r k')
   split <;> rfl
  ·rename_i e
   show (if k' = j then some w else dget? (dput r k v) k') = if k' = k then some v else (if k' = j then some w else dget? r k')
   rw [ih]
   by_cases q1 : k' = j
   ·subst q1; rw [if_pos rfl, if_neg fun w => e w.symm, if_pos rfl]
   ·rw [if_neg q1, if_neg q1]
theorem dput_l (es : List (AV × AV)) (k v : AV) : (dput es k v).length ≤ es.length + 1 := by
 induction es with
 | nil => exact Nat.le_refl _
 | cons p r ih =>
  obtain ⟨j, w⟩ := p
  unfold dput
  split
  ·simp
  ·simp; omega
noncomputable def Once : List (AV × AV) → Prop
 | [] => True
 | (k, _) :: r => dget? r k = none ∧ Once r
theorem Once.put {es : List (AV × AV)} (x : Once es) (k v : AV) : Once (dput es k v) := by
 induction es with
 | nil => exact ⟨rfl, trivial⟩
 | cons p r ih =>
  obtain ⟨j, w⟩ := p
  unfold dput
  split
  ·exact x
  ·rename_i e
   exact ⟨by rw [dget_dput, if_neg fun w => e w.symm]; exact x.1, ih x.2⟩
theorem dget_ddel {es : List (AV × AV)} (x : Once es) (k k' : AV) : dget? (ddel es k) k' = if k' = k then none else dget? es k' := by
 induction es with
 | nil =>
  show none = _
  split <;> rfl
 | cons p r ih =>
  obtain ⟨j, w⟩ := p
  unfold ddel
  split
  ·rename_i e; subst e
   show dget? r k' = if k' = k then none else (if k' = k then some w else dget? r k')
   split
   ·rename_i q; rw [q]; exact x.1
   ·rfl
  ·rename_i e
   show (if k' = j then some w else dget? (ddel r k) k') = if k' = k then none else (if k' = j then some w else dget? r k')
   rw [ih x.2]
   by_cases q1 : k' = j
   ·subst q1; rw [if_pos rfl, if_neg fun w => e w.symm, if_pos rfl]
   ·rw [if_neg q1, if_neg q1]
theorem ddel_l (es : List (AV × AV)) (k : AV) : (ddel es k).length ≤ es.length := by
 induction es with
 | nil => exact Nat.le_refl _
 | cons p r ih =>
  obtain ⟨j, w⟩ := p
  unfold ddel
  split
  ·simp
  ·simp; omega
theorem Once.del {es : List (AV × AV)} (x : Once es) (k : AV) : Once (ddel es k) := by
 induction es with
 | nil => exact x
 | cons p r ih =>
  obtain ⟨j, w⟩ := p
  unfold ddel
  split
  ·exact x.2
  ·rename_i e
   refine ⟨?_, ih x.2⟩
   rw [dget_ddel x.2]
   split
   ·rfl
   ·exact x.1
inductive TreX (M : Nat) (A : Ad) (t a d : Nat) (T : Tr) (G : Hp) : Prop
 | intro (es : List (AV × AV)) (x : TR A t a d 1000 es T G) (o : Once es) (l : es.length ≤ M)
structure Tre (M : Nat) (A : Ad) (t a d : Nat) (T : Tr) (G : Hp) : Prop where
 tr : TreX M A t a d T G
 wt : WT M T
theorem Tre.with (X : Tre M A t a d T G) {T' : Tr} (W : WT M T') (e : ∀ j, T j = none ↔ T' j = none) : Tre M A t a d T' G := by
 obtain ⟨es, x, o, l⟩ := X.tr
 exact ⟨⟨es, x.like e, o, l⟩, W⟩
theorem TR.put (X : TR A t a d mx es T G) {l : Nat} {T' : Tr} (h0 : x ≠ 0) (hl : es.length < 900) (e : ∀ j, j ≠ x → (T j = none ↔ T' j = none)) (ex : T' x ≠ none) : TR (updA A t x l) t a d mx (dput es (.int x) (.loc l)) T' (upd G d (.dict (dput es (.int x) (.loc l)))) := by
 have ad : a ≠ d := fun w => by have := X.dict; rw [← w, X.obj] at this; exact absurd this nofun
 have e0 : updA A t x l t 0 = A t 0 := updA_ne _ _ fun w => h0 w.2.symm
 refine ⟨?_, upd_same .., fun i => ?_, by have := dput_l es (.int x) (.loc l); omega⟩
 ·rw [upd_ne _ _ ad]
  show G a = some (.inst 68 [(70, .loc (updA A t x l t 0)), _, _])
  rw [e0]; exact X.obj
 ·rw [dget_dput]
  by_cases w : i = x
  ·subst w
   rw [if_pos rfl]
   cases q : T' i with
   | none => exact (ex q).elim
   | some y => show _ = some _; rw [updA_same]
  ·rw [if_neg (by intro z; cases z; exact w rfl), X.ent]
   cases q : T i with
   | none => rw [(e i w).mp q]; rfl
   | some y =>
    cases q' : T' i with
    | none => rw [(e i w).mpr q'] at q; exact nsE q
    | some z => show some _ = some _; rw [updA_ne _ _ fun z => w z.2]
theorem TR.del (X : TR A t a d mx es T G) (o : Once es) {T' : Tr} (e : ∀ j, j ≠ x → (T j = none ↔ T' j = none)) (ex : T' x = none) : TR A t a d mx (ddel es (.int x)) T' (upd G d (.dict (ddel es (.int x)))) := by
 have ad : a ≠ d := fun w => by have := X.dict; rw [← w, X.obj] at this; exact absurd this nofun
 refine ⟨by rw [upd_ne _ _ ad]; exact X.obj, upd_same .., fun i => ?_, by have := ddel_l es (.int x); have := X.len; omega⟩
 rw [dget_ddel o]
 by_cases w : i = x
 ·subst w; rw [if_pos rfl, ex]; rfl
 ·rw [if_neg (by intro z; cases z; exact w rfl), X.ent]
  cases q : T i with
  | none => rw [(e i w).mp q]
  | some y =>
   cases q' : T' i with
   | none => rw [(e i w).mpr q'] at q; exact nsE q
   | some z => rfl
end
end
section
open PySem PySem.W PyProof.Rows
section
variable {C : Nat → List AV → St → R AV} {E : Est} {k n : Nat} {h : Hp} {L : Lo} {M a d : Nat} {A cl ql : Ad} {G : Hp} {Φ : Fo} {t : Nat} {i x p q c j : Int} {nd nq nx np : Nd} {T : Tr} {Q : Pst AV}
theorem setN_none {nd : Nd} (hx : T x ≠ none) : setN T x nd j = none ↔ T j = none := by
 by_cases q : j = x
 ·subst q; rw [setN_same]; exact ⟨fun w => (nomatch w), fun w => (hx w).elim⟩
 ·rw [setN_ne _ _ q]
theorem addChild_none : addChild T p c j = none ↔ T j = none := by
 cases h1 : T p with
 | none => unfold addChild; rw [h1]
 | some np =>
  cases h2 : T c with
  | none => unfold addChild; rw [h1, h2]
  | some nc =>
   rw [addChild_eq h1 h2, setN_none (setN_dom (by rw [h1]; nofun)), setN_none (by rw [h2]; nofun)]
theorem hangAll_none (ks : List Int) : ∀ {T : Tr}, hangAll T p ks j = none ↔ T j = none := by
 induction ks with
 | nil => intro T; exact .rfl
 | cons k r ih => intro T; exact (ih (T := addChild T p k)).trans addChild_none
theorem addExcl_none : addExcl T p x j = none ↔ T j = none := by
 unfold addExcl
 cases h1 : T p with
 | none => exact .rfl
 | some np =>
  refine (hangAll_none (p := x) np.kids).trans (addChild_none.trans (setN_none (by rw [h1]; nofun)))
theorem cut_none : cutChild T q x j = none ↔ T j = none := by
 unfold cutChild
 cases h1 : T q with
 | none => exact .rfl
 | some nq => exact setN_none (by rw [h1]; nofun)
theorem moved_none {ex : Bool} : moved T q p x ex j = none ↔ T j = none := by
 unfold moved; split
 ·exact addExcl_none.trans cut_none
 ·exact addChild_none.trans cut_none
theorem putIn_none {w : Int} {ex : Bool} : putIn T p x w ex j = none ↔ setN T x (nd0 w) j = none := by
 unfold putIn; split
 ·exact addExcl_none
 ·exact addChild_none
theorem takeOut_none : takeOut T q x j = none ↔ j = x ∨ T j = none := by
 unfold takeOut delN
 by_cases w : j = x
 ·rw [if_pos w]; exact ⟨fun _ => .inl w, fun _ => rfl⟩
 ·rw [if_neg w]
  unfold rmChild
  rw [if_pos rfl]
  cases h1 : T x with
  | none => simp [w]
  | some nx =>
   dsimp only
   rw [hangAll_none, cut_none]
   simp [w]
theorem SB.touch {T1 : Tr} (e : ∀ u nu, T1 u = some nu → ∃ nu', T u = some nu' ∧ nu'.kids = nu.kids) (s : SB T1 x i) : SB T x i := by
 induction s with
 | kid a b => obtain ⟨nu', g1, g2⟩ := e _ _ a; exact .kid g1 (by rw [g2]; exact b)
 | more _ a b ih => obtain ⟨nu', g1, g2⟩ := e _ _ a; exact .more ih g1 (by rw [g2]; exact b)
theorem parOf_eq (hx : T x = some nx) (e : nx.par = some q) : parOf T x = q := by
 unfold parOf
 rw [hx]
 show nx.par.getD 0 = q
 rw [e]; rfl
section
variable {w : Int} {ex : Bool} {kind : Int}
abbrev TT (T : Tr) (kind x p w : Int) (ex : Bool) (v : AV) (T' : Tr) : Prop := toldOf T kind x w = v ∧ treeOf T kind x p w ex = T'
theorem tt_dup (z : kind < 3) (e : T x ≠ none) : TT T kind x p w ex (.str 111) T := by unfold TT toldOf treeOf; rw [if_pos z, if_pos z, if_neg e, if_neg e]; exact ⟨rfl, rfl⟩
theorem tt_put (z : kind < 3) (e : T x = none) (hw : wok w) : TT T kind x p w ex .none (putIn T p x w ex) := by unfold TT toldOf treeOf; rw [if_pos z, if_pos z, if_pos e, if_pos e, if_pos hw, if_pos hw]; exact ⟨rfl, rfl⟩
theorem tt_bad (z : kind < 3) (e : T x = none) (hw : ¬ wok w) : TT T kind x p w ex (.str 22) T := by unfold TT toldOf treeOf; rw [if_pos z, if_pos z, if_pos e, if_pos e, if_neg hw, if_neg hw]; exact ⟨rfl, rfl⟩
theorem tt_miss (z : ¬ kind < 3) (e : T x = none) : TT T kind x p w ex (.str 112) T := by unfold TT toldOf treeOf; rw [if_neg z, if_neg z, if_pos e, e]; exact ⟨rfl, rfl⟩
theorem tt_mv (z : ¬ kind < 3) (z3 : kind = 3) (e : T x = some nx) (hw : wok w) : TT T kind x p w ex .none (moved (setN T x { nx with w := w }) (parOf T x) p x ex) := by unfold TT toldOf treeOf; rw [if_neg z, if_neg z, if_neg (by rw [e]; nofun), e, if_pos z3, if_pos hw]; dsimp only; rw [if_pos z3, if_pos hw]; exact ⟨rfl, rfl⟩
theorem tt_bmv (z : ¬ kind < 3) (z3 : kind = 3) (e : T x ≠ none) (hw : ¬ wok w) : TT T kind x p w ex (.str 22) T := by
 refine xo1_1 (Option.ne_none_iff_exists'.mp e) fun nx hx => ?_
 unfold TT toldOf treeOf; rw [if_neg z, if_neg z, if_neg e, hx, if_pos z3, if_neg hw]; dsimp only; rw [if_pos z3, if_neg hw]; exact ⟨rfl, rfl⟩
theorem tt_act (z : ¬ kind < 3) (z3 : ¬ kind = 3) (e : T x = some nx) (z7 : kind < 6 ∨ kind = 6) : TT T kind x p w ex .none (setN T x { nx with act := decide (¬ kind < 6) }) := by
 unfold TT toldOf treeOf; rw [if_neg z, if_neg z, if_neg (by rw [e]; nofun), e, if_neg z3]; dsimp only; rw [if_neg z3]
 by_cases z6 : kind < 6
 ·rw [if_pos z6, decide_eq_false (fun h => h z6)]; exact ⟨rfl, rfl⟩
 ·rw [if_neg z6, if_pos (z7.resolve_left z6), decide_eq_true z6]; exact ⟨rfl, rfl⟩
theorem tt_out (z : ¬ kind < 3) (z3 : ¬ kind = 3) (z6 : ¬ kind < 6) (z7 : ¬ kind = 6) (e : T x ≠ none) : TT T kind x p w ex .none (takeOut T (parOf T x) x) := by
 refine xo1_1 (Option.ne_none_iff_exists'.mp e) fun nx hx => ?_
 unfold TT toldOf treeOf; rw [if_neg z, if_neg z, if_neg e, hx, if_neg z3]; dsimp only; rw [if_neg z3, if_neg z6, if_neg z7]; exact ⟨rfl, rfl⟩
end
theorem f29 (m : Nat) {kind w : Int} {pv : AV} {ex : Bool} (R : Rep A cl ql (setT Φ t T) G h n) (X : Tre M A t a d T G) (hM : M < 400) (h0 : 0 < x ∧ x < 1000000000) (hpv : pv = .int p ∨ (pv = .none ∧ p = 0)) (hp : T p ≠ none)
  (hmv : kind = 3 → T x ≠ none → p ≠ x ∧ ¬ SB T x p ∧ (p = 0 ∨ climb T 100 p x = some false))
  (hQ : ∀ A' cl' ql' G' h' n', Rep A' cl' ql' (setT Φ t (treeOf T kind x p w ex)) G' h' n' → Tre (M + 1) A' t a d (treeOf T kind x p w ex) G' → (∀ u, u ≠ t → A' u = A u) → (∀ l, l ≠ d → G' l = G l) → Q (toldOf T kind x w) L h' n' 0) :
  Wp (callF sg (m + 8) 29 [.loc a, .int kind, .int x, pv, .int w, .bool ex] ⟨L, h, n, 0⟩) Q E := by
 have W1 := X.wt.more (Nat.le_add_right M 1)
 have hQ : ∀ {v T'}, TT T kind x p w ex v T' → ∀ A' cl' ql' G' h' n', Rep A' cl' ql' (setT Φ t T') G' h' n' → Tre (M + 1) A' t a d T' G' → (∀ u, u ≠ t → A' u = A u) → (∀ l, l ≠ d → G' l = G l) → Q v L h' n' 0 := by rintro _ _ ⟨rfl, rfl⟩; exact hQ
 obtain ⟨es, TX, on, hl⟩ := X.tr
 have same : Tre (M + 1) A t a d T G := ⟨⟨es, TX, on, by omega⟩, W1⟩
 refine c_in rfl ?_
 show Wp (execs sg _ b29 ⟨[(105, .loc a), (106, .int kind), (107, .int x), (108, pv), (22, .int w), (109, .bool ex)], h, n, 0⟩) _ _
 delta b29
 refine xs_cons (x_try ?_)
 repeat walk_at "e"
 refine it_s (fun z => ?_) fun z => ?_
 ·have z := of_decide_eq_true z
  repeat walk_at "e"
  refine ⟨_, methT R TX rfl rfl, ?_⟩
  repeat walk_at "e"
  have px : T x = none → p ≠ x := fun e w => hp (w ▸ e)
  refine xo1_1 (Option.ne_none_iff_exists'.mp hp) fun np hnp => ?_
  refine c_fn rfl rfl (f21 m R (Nat.zero_le _) TX h0 (by omega) (fun e => X.wt.noRef e) hpv (fun e => ?_) (fun e hw h' n' R' => ?_) px (fun e hw => ⟨np, X.wt.takes (by omega) hnp, (X.wt.putIn e hnp (by omega) (px e) hw hM ex).2⟩) fun e hw cl' ql' h' n' R' => ?_)
  ·refine h_hit rfl ?_
   repeat walk_at "e"
   exact hQ (tt_dup z e) _ _ _ _ _ _ R same (fun _ _ => rfl) fun _ _ => rfl
  ·refine h_miss rfl rfl (by decide) (h_miss rfl rfl (by decide) (h_hit rfl ?_))
   repeat walk_at "e"
   exact hQ (tt_bad z e hw) _ _ _ _ _ _ R' same (fun _ _ => rfl) fun _ _ => rfl
  ·repeat walk_at "e"
   refine hQ (tt_put z e hw) _ _ _ _ _ _ R' ?_ (fun u hu => ?_) fun l hl => upd_ne _ _ hl
   ·refine ⟨⟨_, TX.put (by omega) (by omega) (fun j hj => ?_) ?_, on.put _ _, by have := dput_l es (.int x) (.loc n); omega⟩, (X.wt.putIn e hnp (by omega) (px e) hw hM ex).1⟩
    ·rw [putIn_none, setN_ne _ _ hj]
    ·rw [ne_eq, putIn_none, setN_same]; nofun
   ·funext j; exact updA_ne _ _ fun z => hu z.1
 ·have z := of_decide_eq_false z
  have miss : T x = none → (0 : Nat) = 0 ∧ Wp (handle sg (callF sg (m + 7)) 0 (match b29.at 0 with | .try _ hs _ => hs | _ => .nil) 15 false ⟨[(105, .loc a), (106, .int kind), (107, .int x), (108, pv), (22, .int w), (109, .bool ex)], h, n, 0⟩) (Go1 sg (callF sg (m + 7)) .nil (Back L Q) fun c cl _ h n k => E c cl L h n k) fun c cl _ h n k => E c cl L h n k := fun e => by
   refine ⟨rfl, ?_⟩
   delta b29
   dsimp only [Ss.at]
   refine h_miss rfl rfl (by decide) (h_hit rfl ?_)
   repeat walk_at "e"
   exact hQ (tt_miss z e) _ _ _ _ _ _ R same (fun _ _ => rfl) fun _ _ => rfl
  refine xs_nil (go_next ?_)
  repeat walk_at "e"
  refine it_s (fun z3 => ?_) fun z3 => ?_
  ·have z3 := of_decide_eq_true z3
   repeat walk_at "e"
   refine ⟨_, methT R TX rfl rfl, ?_⟩
   repeat walk_at "e"
   have px : p ≠ x := fun w => by
    by_cases e : T x = none
    ·exact hp (w ▸ e)
    ·exact (hmv z3 e).1 w
   have hpv' : (pv = .int p ∧ (p = 0 ∨ (p ≠ x ∧ (T x ≠ none → climb T 100 p x = some false)))) ∨ (pv = .none ∧ p = 0) := by
    rcases hpv with h | h
    ·refine .inl ⟨h, ?_⟩
     by_cases p0 : p = 0
     ·exact .inl p0
     ·exact .inr ⟨px, fun e => (hmv z3 e).2.2.resolve_left p0⟩
    ·exact .inr h
   have mv : ∀ nx, T x = some nx → wok w → WT M (setN T x { nx with w := w }) ∧ ¬ SB (setN T x { nx with w := w }) x p ∧ nx.par = some (parOf T x) := fun nx e hw => by
    refine xo2_2 (X.wt.gives (by omega) e (by omega) id) fun q nq e1 g => ?_
    refine ⟨X.wt.touch e hw (fun z => by omega) rfl rfl (.refl _), fun s => (hmv z3 (by rw [e]; nofun)).2.1 (s.touch fun u nu h => ?_), by rw [parOf_eq e e1]; exact e1⟩
    by_cases z : u = x
    ·subst z; rw [setN_same] at h; cases h; exact ⟨nx, e, rfl⟩
    ·rw [setN_ne _ _ z] at h; exact ⟨nu, h, rfl⟩
   refine c_fn rfl rfl (f22 (q := parOf T x) m R (Nat.zero_le _) TX h0 hpv' (fun e => miss e) (fun e hw h' n' R' => ?_) hp (fun e hw => ?_) fun nx e hw cl' ql' h' n' R' => ?_)
   ·refine h_miss rfl rfl (by decide) (h_miss rfl rfl (by decide) (h_hit rfl ?_))
    repeat walk_at "e"
    exact hQ (tt_bmv z z3 e hw) _ _ _ _ _ _ R' same (fun _ _ => rfl) fun _ _ => rfl
   ·refine xo1_1 (Option.ne_none_iff_exists'.mp e) fun nx hx => ?_
    refine xo0_3 (mv nx hx hw) fun m1 m2 m3 => ?_
    refine xo2_4 (m1.moved (setN_same ..) m3 (setN_dom hp) (by omega) px m2 (by omega) ex) fun nq np g1 g2 g3 g4 => ?_
    exact ⟨nq, nx, np, hx, g1, px, g2, g4⟩
   ·refine xo0_3 (mv nx e hw) fun m1 m2 m3 => ?_
    refine xo2_4 (m1.moved (setN_same ..) m3 (setN_dom hp) (by omega) px m2 (by omega) ex) fun nq np g1 g2 g3 g4 => ?_
    repeat walk_at "e"
    exact hQ (tt_mv z z3 e hw) _ _ _ _ _ _ R' ⟨⟨es, TX.like fun j => (moved_none.trans (setN_none (by rw [e]; nofun))).symm, on, by omega⟩, g3.more (Nat.le_add_right M 1)⟩ (fun _ _ => rfl) fun _ _ => rfl
  ·have z3 := of_decide_eq_false z3
   refine xs_nil (go_next ?_)
   repeat walk_at "e"
   refine it_s (fun z6 => ?_) fun z6 => ?_
   ·have z6 := of_decide_eq_true z6
    repeat walk_at "e"
    refine ⟨_, methT R TX rfl rfl, ?_⟩
    repeat walk_at "e"
    refine c_fn rfl rfl (f24 (m + 6) R TX h0 (fun nx e h' R' => ?_) fun e => miss e)
    repeat walk_at "e"
    have tt := tt_act (p := p) (w := w) (ex := ex) z z3 e (.inl z6)
    rw [decide_eq_false (fun h => h z6)] at tt
    exact hQ tt _ _ _ _ _ _ R' (same.with (W1.touch e (X.wt.w _ nx e) (fun z => by omega) rfl rfl (.refl _)) fun j => (setN_none (by rw [e]; nofun)).symm) (fun _ _ => rfl) fun _ _ => rfl
   ·have z6 := of_decide_eq_false z6
    refine xs_nil (go_next ?_)
    repeat walk_at "e"
    refine it_s (fun z7 => ?_) fun z7 => ?_
    ·have z7 := of_decide_eq_true z7
     repeat walk_at "e"
     refine ⟨_, methT R TX rfl rfl, ?_⟩
     repeat walk_at "e"
     refine c_fn rfl rfl (f25 (m + 6) R TX h0 (fun nx e h' R' => ?_) fun e => miss e)
     repeat walk_at "e"
     have tt := tt_act (p := p) (w := w) (ex := ex) z z3 e (.inr z7)
     rw [decide_eq_true z6] at tt
     exact hQ tt _ _ _ _ _ _ R' (same.with (W1.touch e (X.wt.w _ nx e) (fun z => by omega) rfl rfl (.refl _)) fun j => (setN_none (by rw [e]; nofun)).symm) (fun _ _ => rfl) fun _ _ => rfl
    ·have z7 := of_decide_eq_false z7
     refine xs_nil (go_next ?_)
     repeat walk_at "e"
     refine ⟨_, methT R TX rfl rfl, ?_⟩
     repeat walk_at "e"
     refine c_fn rfl rfl (f23 (q := parOf T x) (m + 1) R (Nat.zero_le _) TX h0 (fun e => miss e) (fun e => ?_) fun e ql' h' n' R' => ?_)
     ·refine xo1_1 (Option.ne_none_iff_exists'.mp e) fun nx hx => ?_
      refine xo2_5 (X.wt.takeOut hx (by omega) (by omega)) fun q nq e1 g1 g2 g3 g4 => ?_
      have : parOf T x = q := parOf_eq hx e1
      rw [this]
      exact ⟨nq, nx, g1, g2, g3⟩
     ·refine xo1_1 (Option.ne_none_iff_exists'.mp e) fun nx hx => ?_
      refine xo2_5 (X.wt.takeOut hx (by omega) (by omega)) fun q nq e1 g1 g2 g3 g4 => ?_
      have e2 : parOf T x = q := parOf_eq hx e1
      repeat walk_at "e"
      refine hQ (tt_out z z3 z6 z7 e) _ _ _ _ _ _ R' ⟨⟨_, TX.del on (fun j hj => ?_) ?_, on.del _, by have := ddel_l es (.int x); omega⟩, by rw [e2]; exact g4.more (Nat.le_add_right M 1)⟩ (fun _ _ => rfl) fun l hl => upd_ne _ _ hl
      ·rw [takeOut_none]; simp [hj]
      ·rw [takeOut_none]; exact .inl rfl
end
end
section
open PySem
noncomputable def ren (g : Int) (nd : Nd) : Nd := { nd with par := nd.par.map fun p => if p = 0 then g else p }
noncomputable def fi (g i : Int) : Int := if i = 0 then g else i
abbrev Nd.st (nd : Nd) : Int × Int × Bool × Option Int := (nd.w, nd.df, nd.act, nd.par)
structure Emb (g : Int) (D : Int → Prop) (s : Int × Int × Bool × Option Int) (V O W : Tr) : Prop where
 g0 : g ≠ 0
 D0 : ∀ i, D i → i ≠ 0 ∧ i ≠ g
 dom : ∀ i, O i ≠ none → i = 0 ∨ D i
 root : ∃ o w, O 0 = some o ∧ W g = some w ∧ w.kids = o.kids ∧ w.queue = o.queue ∧ w.lw = o.lw ∧ w.st = s
 node : ∀ i, D i → W i = (O i).map (ren g)
 out : ∀ j, ¬ D j → j ≠ g → W j = V j
section
variable {g : Int} {D : Int → Prop} {s : Int × Int × Bool × Option Int} {V O W : Tr} {i c p q x : Int} {o w np nc nx nq : Nd} {M : Nat}
theorem fi_0 : fi g 0 = g := if_pos rfl
theorem fi_ne (h : i ≠ 0) : fi g i = i := if_neg h
theorem Emb.fi_ne' (X : Emb g D s V O W) (hp : p = 0 ∨ D p) (hc : D c) (h : p ≠ c) : fi g p ≠ c := by
 rcases hp with rfl | hp
 ·rw [fi_0]; exact (X.D0 c hc).2.symm
 ·rw [fi_ne (X.D0 p hp).1]; exact h
theorem Emb.at_ (X : Emb g D s V O W) (h : O i = some o) : ∃ w, W (fi g i) = some w ∧ w.kids = o.kids ∧ w.queue = o.queue ∧ w.lw = o.lw ∧ (i ≠ 0 → w = ren g o) ∧ (i = 0 → w.st = s) := by
 rcases X.dom i (by rw [h]; nofun) with rfl | hD
 ·refine xo2_6 X.root fun o' w h1 h2 h3 h4 h5 h6 => ?_
  rw [h] at h1; obtain rfl := Option.some.inj h1
  exact ⟨w, by rw [fi_0]; exact h2, h3, h4, h5, fun z => (z rfl).elim, fun _ => h6⟩
 ·have h0 := (X.D0 i hD).1
  refine ⟨ren g o, by rw [fi_ne h0, X.node i hD, h]; rfl, rfl, rfl, rfl, fun _ => rfl, fun z => (h0 z).elim⟩
theorem Emb.set (X : Emb g D s V O W) (hi : i = 0 ∨ D i) {o' w' : Nd} (h0 : i = 0 → w'.kids = o'.kids ∧ w'.queue = o'.queue ∧ w'.lw = o'.lw ∧ w'.st = s) (h1 : i ≠ 0 → w' = ren g o') : Emb g D s V (setN O i o') (setN W (fi g i) w') := by
 refine ⟨X.g0, X.D0, fun j hj => ?_, ?_, fun j hj => ?_, fun j hj hg => ?_⟩
 ·by_cases q : j = i
  ·rw [q]; exact hi
  ·rw [setN_ne _ _ q] at hj; exact X.dom j hj
 ·by_cases q : i = 0
  ·subst q
   refine xo0_4 (h0 rfl) fun a b c d => ?_
   exact ⟨o', w', setN_same .., by rw [fi_0]; exact setN_same .., a, b, c, d⟩
  ·refine xo2_3 X.root fun o w h2 h3 h4 => ?_
   have hD := hi.resolve_left q
   rw [fi_ne q]
   exact ⟨o, w, (setN_ne _ _ fun z => q z.symm).trans h2, (setN_ne _ _ fun z => (X.D0 i hD).2 z.symm).trans h3, h4⟩
 ·by_cases q : i = 0
  ·subst q
   rw [fi_0, setN_ne _ _ (X.D0 j hj).2, setN_ne _ _ (X.D0 j hj).1]; exact X.node j hj
  ·rw [fi_ne q]
   by_cases z : j = i
   ·subst z; rw [setN_same, setN_same, h1 q]; rfl
   ·rw [setN_ne _ _ z, setN_ne _ _ z]; exact X.node j hj
 ·by_cases q : i = 0
  ·subst q; rw [fi_0, setN_ne _ _ hg]; exact X.out j hj hg
  ·rw [fi_ne q, setN_ne _ _ (show j ≠ i from fun z => hj (by rw [z]; exact hi.resolve_left q))]; exact X.out j hj hg
theorem Emb.addChild (X : Emb g D s V O W) (hp : O p = some np) (hc : O c = some nc) (c0 : c ≠ 0) (ne : p ≠ c) : Emb g D s V (Mine.addChild O p c) (Mine.addChild W (fi g p) c) := by
 have hD : D c := (X.dom c (by rw [hc]; nofun)).resolve_left c0
 have pD := X.dom p (by rw [hp]; nofun)
 refine xo1_6 (X.at_ hp) fun wp p1 p2 p3 p4 p5 p6 => ?_
 refine xo1_6 (X.at_ hc) fun wc c1 c2 c3 c4 c5 c6 => ?_
 rw [fi_ne c0] at c1
 rw [addChild_eq hp hc, addChild_eq p1 c1]
 have X1 := X.set (i := c) (o' := { nc with par := some p }) (w' := { wc with par := some (fi g p) }) (.inr hD) (fun z => (c0 z).elim) fun _ => by
  rw [c5 c0]; rfl
 rw [fi_ne c0] at X1
 refine X1.set pD (fun z => ⟨by show wp.kids ++ _ = _; rw [p2], by show qpush wp.queue (wp.lw, c) = _; rw [p3, p4], p4, p6 z⟩) fun z => ?_
 rw [p5 z]; rfl
theorem Emb.hangAll (ks : List Int) : ∀ {O W : Tr} {np : Nd}, Emb g D s V O W → O p = some np → (∀ k ∈ ks, O k ≠ none ∧ k ≠ 0 ∧ p ≠ k) → Emb g D s V (Mine.hangAll O p ks) (Mine.hangAll W (fi g p) ks) := by
 induction ks with
 | nil => intro O W np X _ _; exact X
 | cons k r ih =>
  intro O W np X hp hk
  refine xo0_3 (hk k (.head _)) fun k1 k2 k3 => ?_
  refine xo1_1 (Option.ne_none_iff_exists'.mp k1) fun nk hnk => ?_
  have X1 := X.addChild hp hnk k2 k3
  have e := addChild_eq hp hnk
  exact ih X1 (show Mine.addChild O p k p = _ by rw [e]; exact setN_same ..) fun z hz => ⟨fun w => (hk z (.tail _ hz)).1 (addChild_none.mp w), (hk z (.tail _ hz)).2⟩
theorem Emb.cut (X : Emb g D s V O W) (hq : O q = some nq) : Emb g D s V (cutChild O q x) (cutChild W (fi g q) x) := by
 refine xo1_6 (X.at_ hq) fun wq p1 p2 p3 p4 p5 p6 => ?_
 unfold cutChild
 rw [hq, p1]
 exact X.set (X.dom q (by rw [hq]; nofun)) (fun z => ⟨by show wq.kids.erase x = _; rw [p2], by show requeue wq.queue x = _; rw [p3], p4, p6 z⟩) fun z => by rw [p5 z]; rfl
theorem Emb.excl (X : Emb g D s V O W) (hp : O p = some np) (hx : O x = some nx) (x0 : x ≠ 0) (ne : p ≠ x) (hk : ∀ k ∈ np.kids, O k ≠ none ∧ k ≠ 0 ∧ k ≠ x) : Emb g D s V (addExcl O p x) (addExcl W (fi g p) x) := by
 refine xo1_6 (X.at_ hp) fun wp p1 p2 p3 p4 p5 p6 => ?_
 have e1 : addExcl O p x = Mine.hangAll (Mine.addChild (setN O p { np with kids := [], queue := [], lw := 0 }) p x) x np.kids := by unfold addExcl; rw [hp]; rfl
 have e2 : addExcl W (fi g p) x = Mine.hangAll (Mine.addChild (setN W (fi g p) { wp with kids := [], queue := [], lw := 0 }) (fi g p) x) x np.kids := by unfold addExcl; rw [p1, ← p2]; rfl
 rw [e1, e2]
 have X1 := X.set (i := p) (o' := { np with kids := [], queue := [], lw := 0 }) (w' := { wp with kids := [], queue := [], lw := 0 }) (X.dom p (by rw [hp]; nofun)) (fun z => ⟨rfl, rfl, rfl, p6 z⟩) fun z => by rw [p5 z]; rfl
 have hx1 : setN O p { np with kids := [], queue := [], lw := 0 } x = some nx := (setN_ne _ _ ne.symm).trans hx
 have X2 := X1.addChild (setN_same ..) hx1 x0 ne
 have e := addChild_eq (setN_same O p { np with kids := [], queue := [], lw := 0 }) hx1
 have hx2 : Mine.addChild (setN O p { np with kids := [], queue := [], lw := 0 }) p x x = some { nx with par := some p } := by rw [e, setN_ne _ _ ne.symm]; exact setN_same ..
 have := X2.hangAll np.kids hx2 fun k h => ⟨fun w => (hk k h).1 (by have := addChild_none.mp w; exact (setN_none (by rw [hp]; nofun)).mp this), (hk k h).2.1, (hk k h).2.2.symm⟩
 rwa [fi_ne x0] at this
theorem Emb.del (X : Emb g D s V O W) (hx : D x) : Emb g D s V (delN O x) (delN W x) := by
 refine xo0_2 (X.D0 x hx) fun x0 xg => ?_
 refine ⟨X.g0, X.D0, fun j hj => ?_, ?_, fun j hj => ?_, fun j hj hg => ?_⟩
 ·unfold delN at hj
  split at hj
  ·exact (hj rfl).elim
  ·exact X.dom j hj
 ·refine xo2_3 X.root fun o w h2 h3 h4 => ?_
  exact ⟨o, w, by unfold delN; rw [if_neg x0.symm]; exact h2, by unfold delN; rw [if_neg xg.symm]; exact h3, h4⟩
 ·unfold delN
  split
  ·rfl
  ·exact X.node j hj
 ·unfold delN
  rw [if_neg (show j ≠ x from fun z => hj (by rw [z]; exact hx))]; exact X.out j hj hg
theorem Emb.told (X : Emb g D s V O W) (hx : D x) (kind w : Int) : toldOf W kind x w = toldOf O kind x w := by
 have : (W x = none) ↔ (O x = none) := by rw [X.node x hx]; simp
 unfold toldOf
 by_cases h : O x = none
 ·rw [if_pos h, if_pos h, if_pos (this.mpr h), if_pos (this.mpr h)]
 ·rw [if_neg h, if_neg h, if_neg fun z => h (this.mp z), if_neg fun z => h (this.mp z)]
theorem Emb.deed (X : Emb g D s V O W) (T : WT M O) (hx : D x) (hp : O p ≠ none) {kind w : Int} {ex : Bool} (hm : kind = 3 → O x ≠ none → p ≠ x) : Emb g D s V (treeOf O kind x p w ex) (treeOf W kind x (fi g p) w ex) := by
 refine xo0_2 (X.D0 x hx) fun x0 xg => ?_
 have iff : (W x = none) ↔ (O x = none) := by rw [X.node x hx]; simp
 refine xo1_1 (Option.ne_none_iff_exists'.mp hp) fun np hnp => ?_
 unfold treeOf
 by_cases k3 : kind < 3
 ·rw [if_pos k3, if_pos k3]
  by_cases h : O x = none
  ·rw [if_pos h, if_pos (iff.mpr h)]
   by_cases hw : wok w
   ·rw [if_pos hw, if_pos hw]
    have ne : p ≠ x := fun z => hp (z ▸ h)
    have X1 := X.set (i := x) (o' := nd0 w) (w' := nd0 w) (.inr hx) (fun z => (x0 z).elim) fun _ => rfl
    rw [fi_ne x0] at X1
    have hp1 : setN O x (nd0 w) p = some np := (setN_ne _ _ ne).trans hnp
    unfold putIn
    split
    ·exact X1.excl hp1 (setN_same ..) x0 ne fun k hk => by
      refine xm_aaeaa (T.down _ _ hnp k hk) fun k1 _ nd k3 _ => ?_
      exact ⟨setN_dom (by rw [k3]; nofun), k1, fun z => by rw [z, h] at k3; cases k3⟩
    ·exact X1.addChild hp1 (setN_same ..) x0 ne
   ·rw [if_neg hw, if_neg hw]; exact X
  ·rw [if_neg h, if_neg fun z => h (iff.mp z)]; exact X
 ·rw [if_neg k3, if_neg k3]
  cases h : O x with
  | none => rw [iff.mpr h]; exact X
  | some nx =>
   refine xo1_6 (X.at_ h) fun wx w1 w2 w3 w4 w5 _ => ?_
   rw [fi_ne x0] at w1
   have w5 := w5 x0
   rw [w1]
   dsimp only
   refine xo2_3 (T.up _ _ h x0 id) fun q nq q1 q2 q3 => ?_
   have pO : parOf O x = q := parOf_eq h q1
   have pW : parOf W x = fi g q := parOf_eq w1 (by rw [w5]; show nx.par.map _ = _; rw [q1]; rfl)
   have touch : ∀ (o' w' : Nd), w' = ren g o' → Emb g D s V (setN O x o') (setN W x w') := fun o' w' e => by
    have := X.set (i := x) (o' := o') (w' := w') (.inr hx) (fun z => (x0 z).elim) fun _ => e
    rwa [fi_ne x0] at this
   rw [pO, pW]
   by_cases e3 : kind = 3
   ·rw [if_pos e3, if_pos e3]
    by_cases hw : wok w
    ·rw [if_pos hw, if_pos hw]
     have ne := hm e3 (by rw [h]; nofun)
     have T1 := T.touch (nx' := { nx with w := w }) h hw (fun z => (x0 z).elim) rfl rfl (.refl _)
     have X1 := touch { nx with w := w } { wx with w := w } (by rw [w5]; rfl)
     have qx : q ≠ x := fun z => by subst z; exact T.notSelf q2 q3
     have hq1 : setN O x { nx with w := w } q = some nq := (setN_ne _ _ qx).trans q2
     have X2 := X1.cut (x := x) hq1
     have T2 := T1.cut hq1 (setN_same ..) q1 x0
     have hx2 := cut_kids hq1 (setN_same O x { nx with w := w }) qx
     obtain ⟨np2, hp2⟩ := Option.ne_none_iff_exists'.mp (show cutChild (setN O x { nx with w := w }) q x p ≠ none from fun z => hp ((setN_none (by rw [h]; nofun)).mp (cut_none.mp z)))
     unfold moved
     split
     ·exact X2.excl hp2 hx2 x0 ne fun k hk => by
       refine xm_aaeaa (T2.down _ _ hp2 k hk) fun k1 k2 nd k3 _ => ?_
       exact ⟨by rw [k3]; nofun, k1, k2⟩
     ·exact X2.addChild hp2 hx2 x0 ne
    ·rw [if_neg hw, if_neg hw]; exact X
   ·rw [if_neg e3, if_neg e3]
    by_cases e6 : kind < 6
    ·rw [if_pos e6, if_pos e6]; exact touch _ _ (by rw [w5]; rfl)
    ·rw [if_neg e6, if_neg e6]
     by_cases e7 : kind = 6
     ·rw [if_pos e7, if_pos e7]; exact touch _ _ (by rw [w5]; rfl)
     ·rw [if_neg e7, if_neg e7]
      have qx : q ≠ x := fun z => by subst z; exact T.notSelf q2 q3
      have X2 := X.cut (x := x) q2
      have T2 := T.cut q2 h q1 x0
      have hx2 := cut_kids q2 h qx
      refine xo1_2 (cut_to (x := x) q2 q2) fun nq2 hq2 e2_ => ?_; clear e2_
      refine xo1_1 T.rank fun rk r => ?_
      have X3 := X2.hangAll nx.kids hq2 fun k hk => by
       refine xm_aaeaa (T2.down _ _ hx2 k hk) fun k1 k2 nd k3 _ => ?_
       have a := r _ _ h k hk
       have b := r _ _ q2 x q3
       exact ⟨by rw [k3]; nofun, k1, fun z => by subst z; omega⟩
      unfold takeOut rmChild
      rw [if_pos rfl, if_pos rfl, h, w1]
      dsimp only
      rw [w2]
      exact X3.del hx
end
end
section
open PySem
section
variable {g : Int} {D : Int → Prop} {s : Int × Int × Bool × Option Int} {T V O W : Tr} {i c p q x : Int} {o w ni nd : Nd} {M : Nat} {rk : Int → Nat}
theorem ws_next {sub : Tr → Int → Tr × Option Int} (hs : ∀ T c, WS T rk → rk c < rk i → T c ≠ none → Turned T c (sub T c).1) {y : Int × Int} {r : List (Int × Int)} (W : WS T rk) (h : T i = some ni) (e : ni.queue = y :: r) :
  WS (setN T i { ni with queue := r }) rk ∧ (∃ nc, T y.2 = some nc) ∧ y.2 ≠ i ∧ rk y.2 < rk i ∧ setN T i { ni with queue := r } y.2 ≠ none ∧ WS (sub (setN T i { ni with queue := r }) y.2).1 rk ∧ (sub (setN T i { ni with queue := r }) y.2).1 i = some { ni with queue := r } := by
 obtain ⟨h1, h2⟩ := W.q _ _ h y (by rw [e]; exact .head _)
 have ne : y.2 ≠ i := fun w => by rw [w] at h2; omega
 have lr : r.length ≤ 900 := by have := W.len _ _ h; rw [e] at this; simp at this; omega
 have o1 : ∀ j, j ≠ i → OLike (T j) (setN T i { ni with queue := r } j) := fun j hj => by rw [setN_ne _ _ hj]; exact .refl _
 have W1 : WS (setN T i { ni with queue := r }) rk := W.alike i o1 h (setN_same ..) rfl lr fun z hz => W.q _ _ h z (by rw [e]; exact .tail _ hz)
 have n1 : setN T i { ni with queue := r } y.2 ≠ none := by rw [setN_ne _ _ ne]; exact h1
 have t := hs _ y.2 W1 h2 n1
 refine ⟨W1, Option.ne_none_iff_exists'.mp h1, ne, h2, n1, W1.all t.like, ?_⟩
 rw [t.frame (fun j => rk j ≤ rk y.2) (fun j nd hj e' z hz => by have := (W1.q _ _ e' z hz).2; omega) (Nat.le_refl _) i (by omega)]
 exact setN_same ..
theorem seek_congr {sub sub' : Tr → Int → Tr × Option Int} (hs : ∀ T c, WS T rk → rk c < rk i → T c ≠ none → Turned T c (sub T c).1) (he : ∀ T c, WS T rk → rk c < rk i → T c ≠ none → sub T c = sub' T c) :
  ∀ (q : List (Int × Int)) (T : Tr) (acc : List (Int × Int)) (ni : Nd), WS T rk → T i = some ni → ni.queue = q → seek sub i q T acc = seek sub' i q T acc := by
 intro q
 induction q with
 | nil => intros; rfl
 | cons y r ih =>
  intro T acc ni W h e
  obtain ⟨W1, ⟨nc, hc⟩, ne, lt, n1, W2, i2⟩ := ws_next hs W h e
  cases ha : nc.act with
  | true => rw [seek_act h hc ha, seek_act h hc ha]
  | false =>
   rw [seek_sub h hc ha, seek_sub h hc ha, ← he _ _ W1 lt n1]
   cases hr : sub (setN T i { ni with queue := r }) y.2 with
   | mk T2 o =>
    rw [hr] at W2 i2
    cases o with
    | some z => rfl
    | none => exact ih T2 _ _ W2 i2 rfl
theorem sched_fuel : ∀ (d : Nat) (T : Tr) (i : Int), WS T rk → rk i < d → T i ≠ none → sched d T i = sched (d + 1) T i := by
 intro d
 induction d with
 | zero => intro T i _ h; omega
 | succ d ih =>
  intro T i W hd hi
  refine xo1_1 (Option.ne_none_iff_exists'.mp hi) fun ni h => ?_
  rw [sched_eq (d := d) h, sched_eq (d := d + 1) h, seek_congr (rk := rk) (sub := sched d) (sub' := sched (d + 1)) (fun T c W hc hn => sched_ok d T c W (by omega) hn) (fun T c W hc hn => ih T c W (by omega) hn) ni.queue T [] ni W h rfl]
noncomputable def N0 (T : Tr) : Prop := ∀ j nd, T j = some nd → ∀ y ∈ nd.queue, y.2 ≠ 0
theorem N0.all {T' : Tr} (x : N0 T) (h : ∀ j, OLike (T j) (T' j)) : N0 T' := fun j nd e y hy => by
 refine xo1_2 ((h j).back e) fun u e1 e2 => ?_
 have : y.2 ∈ u.queue.map (·.2) := e2.queue.mem_iff.mp (List.mem_map.mpr ⟨y, hy, rfl⟩)
 refine xo1_2 (List.mem_map.mp this) fun z hz ez => ?_
 rw [← ez]; exact x _ _ e1 z hz
theorem WD.n0 {D : Int → Prop} (W : WD M T D) : N0 T := fun _ _ e _ hy => (W.down _ _ e _ (W.inQ e hy)).1
theorem Emb.turn1 (X : Emb g D s V O W) (hi : O i = some ni) {y : Int × Int} (y0 : y.2 ≠ 0) (ne : y.2 ≠ i) (hy : O y.2 ≠ none) : Emb g D s V (Mine.turn1 O i y) (Mine.turn1 W (fi g i) y) := by
 refine xo1_1 (Option.ne_none_iff_exists'.mp hy) fun nc hc => ?_
 refine xo1_6 (X.at_ hi) fun wi p1 p2 p3 p4 p5 p6 => ?_
 refine xo1_6 (X.at_ hc) fun wc c1 c2 c3 c4 c5 c6 => ?_
 rw [fi_ne y0] at c1
 rw [turn1_eq hi hc, turn1_eq p1 c1]
 have X1 := X.set (i := y.2) (o' := { nc with df := Int.fmod (256 + nc.df) nc.w }) (w' := { wc with df := Int.fmod (256 + wc.df) wc.w }) (X.dom _ hy) (fun z => (y0 z).elim) fun _ => by rw [c5 y0]; rfl
 rw [fi_ne y0] at X1
 have ew : wc.w = nc.w ∧ wc.df = nc.df := by rw [c5 y0]; exact ⟨rfl, rfl⟩
 rw [ew.1, ew.2] at X1 ⊢
 refine X1.set (X.dom i (by rw [hi]; nofun)) (fun z => ⟨p2, by show qpush wi.queue _ = _; rw [p3], rfl, p6 z⟩) fun z => ?_
 rw [p5 z]; rfl
theorem Emb.spent : ∀ (xs : List (Int × Int)) {O W : Tr} {ni : Nd}, Emb g D s V O W → O i = some ni → (∀ y ∈ xs, y.2 ≠ 0 ∧ y.2 ≠ i ∧ O y.2 ≠ none) → Emb g D s V (Mine.spent O i xs) (Mine.spent W (fi g i) xs) := by
 intro xs
 induction xs with
 | nil => intro O W ni X _ _; exact X
 | cons y r ih =>
  intro O W ni X hi hx
  refine xo0_3 (hx y (.head _)) fun y0 ne hy => ?_
  have X1 := X.turn1 hi y0 ne hy
  refine xo1_1 (Option.ne_none_iff_exists'.mp hy) fun nc hc => ?_
  have e := turn1_eq hi hc
  exact ih X1 (show Mine.turn1 O i y i = _ by rw [e]; exact setN_same ..) fun z hz => ⟨(hx z (.tail _ hz)).1, (hx z (.tail _ hz)).2.1, by
   show Mine.turn1 O i y z.2 ≠ none
   rw [e]; exact setN_dom (setN_dom (hx z (.tail _ hz)).2.2)⟩
theorem Emb.seek {sub sub' : Tr → Int → Tr × Option Int} (hs : ∀ T c, WS T rk → rk c < rk i → T c ≠ none → Turned T c (sub T c).1)
  (he : ∀ O W c, Emb g D s V O W → WS O rk → N0 O → rk c < rk i → D c → O c ≠ none → (sub' W c).2 = (sub O c).2 ∧ Emb g D s V (sub O c).1 (sub' W c).1) :
  ∀ (q : List (Int × Int)) (O W : Tr) (acc : List (Int × Int)) (ni : Nd), Emb g D s V O W → WS O rk → N0 O → O i = some ni → ni.queue = q →
   (Mine.seek sub' (fi g i) q W acc).2 = (Mine.seek sub i q O acc).2 ∧ Emb g D s V (Mine.seek sub i q O acc).1 (Mine.seek sub' (fi g i) q W acc).1 := by
 intro q
 induction q with
 | nil => intro O W acc ni X _ _ _ _; exact ⟨rfl, X⟩
 | cons y r ih =>
  intro O W acc ni X S N h e
  obtain ⟨W1, ⟨nc, hc⟩, ne, lt, n1, W2, i2⟩ := ws_next hs S h e
  have y0 : y.2 ≠ 0 := N _ _ h y (by rw [e]; exact .head _)
  have yD : D y.2 := (X.dom _ (by rw [hc]; nofun)).resolve_left y0
  refine xo1_6 (X.at_ h) fun wi p1 p2 p3 p4 p5 p6 => ?_
  refine xo1_6 (X.at_ hc) fun wc c1 c2 c3 c4 c5 c6 => ?_
  rw [fi_ne y0] at c1
  have X1 : Emb g D s V (setN O i { ni with queue := r }) (setN W (fi g i) { wi with queue := r }) := X.set (X.dom i (by rw [h]; nofun)) (fun z => ⟨p2, rfl, p4, p6 z⟩) fun z => by rw [p5 z]; rfl
  have ea : wc.act = nc.act := by rw [c5 y0]; rfl
  cases ha : nc.act with
  | true =>
   rw [seek_act h hc ha, seek_act p1 c1 (ea.trans ha)]
   exact ⟨rfl, X1⟩
  | false =>
   rw [seek_sub h hc ha, seek_sub p1 c1 (ea.trans ha)]
   have N1 : N0 (setN O i { ni with queue := r }) := fun j nd e' z hz => by
    by_cases qq : j = i
    ·subst qq; rw [setN_same] at e'; cases e'; exact N _ _ h z (by rw [e]; exact .tail _ hz)
    ·rw [setN_ne _ _ qq] at e'; exact N _ _ e' z hz
   refine xo0_2 (he _ _ y.2 X1 W1 N1 lt yD n1) fun k1 k2 => ?_
   have tn := hs _ y.2 W1 lt n1
   cases hr : sub (setN O i { ni with queue := r }) y.2 with
   | mk O2 o2 =>
    cases hr' : sub' (setN W (fi g i) { wi with queue := r }) y.2 with
    | mk W2' o2' =>
     rw [hr] at k1 k2 W2 i2 tn
     rw [hr'] at k1 k2
     dsimp only at k1 k2 W2 i2 tn
     subst k1
     cases o2' with
     | some z => exact ⟨rfl, k2⟩
     | none => exact ih O2 W2' _ _ k2 W2 (N1.all tn.like) i2 rfl
theorem Emb.sched : ∀ (d : Nat) (O W : Tr) (i : Int), Emb g D s V O W → WS O rk → N0 O → rk i < d → O i ≠ none → (Mine.sched d W (fi g i)).2 = (Mine.sched d O i).2 ∧ Emb g D s V (Mine.sched d O i).1 (Mine.sched d W (fi g i)).1 := by
 intro d
 induction d with
 | zero => intro O W i _ _ _ h; omega
 | succ d ih =>
  intro O W i X S N hd hi
  refine xo1_1 (Option.ne_none_iff_exists'.mp hi) fun ni h => ?_
  refine xo1_6 (X.at_ h) fun wi p1 p2 p3 p4 p5 p6 => ?_
  have hs : ∀ T c, WS T rk → rk c < rk i → T c ≠ none → Turned T c (Mine.sched d T c).1 := fun T c W hc hn => sched_ok d T c W (by omega) hn
  obtain ⟨k1, k2⟩ := Emb.seek (i := i) (sub := Mine.sched d) (sub' := Mine.sched d) hs (fun O W c X S N hc hD hn => by
   have := ih O W c X S N (by omega) hn
   rwa [fi_ne (X.D0 c hD).1] at this) ni.queue O W [] ni X S N h rfl
  refine xo2_5 (seek_ok hs ni.queue O [] ni S h rfl) fun took rest b1 b2 b3 b4 b5 => ?_
  rw [sched_eq h, sched_eq p1, p3, k1]
  refine ⟨rfl, ?_⟩
  rw [List.nil_append] at b2
  rw [b2]
  refine k2.spent took b3 fun y hy => ?_
  have hq : y ∈ ni.queue := by rw [b1]; exact List.mem_append_left _ hy
  have := S.q _ _ h y hq
  have ne : y.2 ≠ i := fun w => by rw [w] at this; omega
  exact ⟨N _ _ h y hq, ne, fun w => this.1 ((b4 _ ne).none.mpr w)⟩
end
end
section
open PySem
section
variable {T T' : Tr} {i k c x : Int} {ni nd : Nd} {M : Nat} {rk : Int → Nat}
noncomputable def Sib (T T' : Tr) : Prop := ∀ j nd, T j = some nd → ∃ nd', T' j = some nd' ∧ nd'.kids = nd.kids ∧ nd'.act = nd.act
theorem Sib.trans {T'' : Tr} (a : Sib T T') (b : Sib T' T'') : Sib T T'' := fun j nd e => by
 refine xo1_3 (a j nd e) fun nd' h1 h2 h3 => ?_
 refine xo1_3 (b j nd' h1) fun nd'' g1 g2 g3 => ?_
 exact ⟨nd'', g1, g2.trans h2, g3.trans h3⟩
theorem Sib.like (h : ∀ j, OLike (T j) (T' j)) : Sib T T' := fun j nd e => by
 refine xo1_2 ((h j).get e) fun nd' h1 h2 => ?_
 exact ⟨nd', h1, h2.kids, h2.act⟩
theorem Sib.queue (h : T i = some ni) (r : List (Int × Int)) : Sib T (setN T i { ni with queue := r }) := fun j nd e => by
 by_cases q : j = i
 ·subst q; rw [h] at e; cases e; exact ⟨_, setN_same .., rfl, rfl⟩
 ·exact ⟨nd, (setN_ne _ _ q).trans e, rfl, rfl⟩
theorem SB.sib (s : Sib T T') (h : SB T i k) : SB T' i k := by
 induction h with
 | kid a b => obtain ⟨nu, g1, g2, _⟩ := s _ _ a; exact .kid g1 (by rw [g2]; exact b)
 | more _ a b ih => obtain ⟨nu, g1, g2, _⟩ := s _ _ a; exact .more ih g1 (by rw [g2]; exact b)
noncomputable def Busy (T : Tr) (i : Int) : Prop := ∃ k nd, (k = i ∨ SB T i k) ∧ T k = some nd ∧ nd.act = true
theorem Busy.sib (s : Sib T T') (h : Busy T i) : Busy T' i := by
 refine xo2_3 h fun k nd h1 h2 h3 => ?_; clear h
 refine xo1_3 (s _ _ h2) fun nd' g1 g2 g3 => ?_
 exact ⟨k, nd', h1.imp id fun h => h.sib s, g1, g3.trans h3⟩
theorem SB.first (h : SB T i k) : ∃ c np, T i = some np ∧ c ∈ np.kids ∧ (k = c ∨ SB T c k) := by
 induction h with
 | kid a b => exact ⟨_, _, a, b, .inl rfl⟩
 | more _ a b ih =>
  refine xo2_3 ih fun c np g1 g2 g3 => ?_; clear ih
  refine ⟨c, np, g1, g2, .inr ?_⟩
  rcases g3 with rfl | g3
  ·exact .kid a b
  ·exact .more g3 a b
theorem seek_none {sub : Tr → Int → Tr × Option Int} (hs : ∀ T c, WS T rk → rk c < rk i → T c ≠ none → Turned T c (sub T c).1) (hn : ∀ T c nc, WS T rk → rk c < rk i → T c = some nc → (sub T c).2 = none → ∀ k, SB T c k → ∀ nd, T k = some nd → (∀ j nd, T j = some nd → j ≠ i → rk j ≤ rk i → (nd.queue.map (·.2)).Perm nd.kids) → nd.act = false) :
  ∀ (q : List (Int × Int)) (T : Tr) (acc : List (Int × Int)) (ni : Nd), WS T rk → T i = some ni → ni.queue = q → (∀ j nd, T j = some nd → j ≠ i → rk j ≤ rk i → (nd.queue.map (·.2)).Perm nd.kids) → (seek sub i q T acc).2.2 = none → ∀ y ∈ q, ¬ Busy T y.2 := by
 intro q
 induction q with
 | nil => intro T acc ni _ _ _ _ _ y hy; exact absurd hy nofun
 | cons y r ih =>
  intro T acc ni W h e kq hnone
  obtain ⟨W1, ⟨nc, hc⟩, ne, lt, n1, W2, i2⟩ := ws_next hs W h e
  have c1 : setN T i { ni with queue := r } y.2 = some nc := (setN_ne _ _ ne).trans hc
  have kq1 : ∀ j nd, setN T i { ni with queue := r } j = some nd → j ≠ i → rk j ≤ rk i → (nd.queue.map (·.2)).Perm nd.kids := fun j nd e' hj hr => by rw [setN_ne _ _ hj] at e'; exact kq _ _ e' hj hr
  cases ha : nc.act with
  | true => rw [seek_act h hc ha] at hnone; exact snE hnone
  | false =>
   rw [seek_sub h hc ha] at hnone
   have tn := hs _ y.2 W1 lt n1
   cases hr : sub (setN T i { ni with queue := r }) y.2 with
   | mk T2 o =>
    rw [hr] at hnone W2 i2 tn
    dsimp only at W2 i2 tn
    cases o with
    | some z => exact snE hnone
    | none =>
     have s2 : Sib T T2 := (Sib.queue h r).trans (.like tn.like)
     have kq2 : ∀ j nd, T2 j = some nd → j ≠ i → rk j ≤ rk i → (nd.queue.map (·.2)).Perm nd.kids := fun j nd e' hj hr => by
      refine xo1_2 ((tn.like j).back e') fun u e1 e2 => ?_
      rw [e2.kids]; exact e2.queue.trans (kq1 _ _ e1 hj hr)
     have rest := ih T2 _ _ W2 i2 rfl kq2 hnone
     intro z hz
     rcases List.mem_cons.mp hz with rfl | hz
     ·rintro ⟨k, nd, h1, h2, h3⟩
      rcases h1 with rfl | h1
      ·rw [hc] at h2; cases h2; rw [ha] at h3; exact ftE h3
      ·have h1' := h1.sib (Sib.queue h r)
       refine xo1_3 (Sib.queue h r _ _ h2) fun nd' g1 _ g3 => ?_
       have := hn _ _ nc W1 lt c1 (by rw [hr]) k h1' nd' g1 kq1
       rw [g3, h3] at this; exact tfE this
     ·exact fun b => rest z hz (b.sib s2)
theorem sched_none : ∀ (d : Nat) (T : Tr) (i : Int) (ni : Nd), WS T rk → rk i < d → T i = some ni → (∀ j nd, T j = some nd → rk j ≤ rk i → (nd.queue.map (·.2)).Perm nd.kids) → (sched d T i).2 = none → ∀ k, SB T i k → ∀ nd, T k = some nd → nd.act = false := by
 intro d
 induction d with
 | zero => intro T i ni _ h; omega
 | succ d ih =>
  intro T i ni W hd h kq hn k hk nd hnd
  rw [sched_eq h] at hn
  refine xo2_3 hk.first fun c np g1 g2 g3 => ?_
  rw [h] at g1; obtain rfl := Option.some.inj g1
  have hq : c ∈ ni.queue.map (·.2) := (kq _ _ h (Nat.le_refl _)).mem_iff.mpr g2
  refine xo1_2 (List.mem_map.mp hq) fun y hy e2_ => ?_; obtain rfl := e2_
  have nb := seek_none (i := i) (rk := rk) (sub := sched d) (fun T c W hc hn => sched_ok d T c W (by omega) hn) (fun T c nc W lt hc hnone k hk nd hnd kq => ih T c nc W (by omega) hc (fun j nd e hj => kq j nd e (fun w => by subst w; omega) (by omega)) hnone k hk nd hnd) ni.queue T [] ni W h rfl (fun j nd e _ hj => kq j nd e hj) hn y hy
  cases ha : nd.act with
  | false => rfl
  | true => exact (nb ⟨k, nd, g3, hnd, ha⟩).elim
theorem WD.busy {W' : WT M T} (W : WS T rk) {d : Nat} (hd : rk 0 < d) (h : ∃ k nd, k ≠ 0 ∧ T k = some nd ∧ nd.act = true) : (sched d T 0).2 ≠ none := fun hn => by
 refine xo2_3 h fun k nd k0 h1 h2 => ?_; clear h
 refine xo1_2 W'.root fun r r1 _ => ?_
 refine xo1_1 W'.rank fun up hup => ?_
 have all : ∀ (m : Nat) (k : Int) (nd : Nd), up k < m → k ≠ 0 → T k = some nd → SB T 0 k := fun m => by
  induction m with
  | zero => intro k nd h; omega
  | succ m ih =>
   intro k nd hm k0 hk
   refine xo2_3 (W'.up _ _ hk k0 id) fun p np g1 g2 g3 => ?_
   by_cases p0 : p = 0
   ·subst p0; exact .kid g2 g3
   ·exact .more (ih p np (by have := hup _ _ g2 k g3; omega) p0 g2) g2 g3
 have := sched_none d T 0 r W hd r1 (fun j nd e _ => W'.kq _ _ e) hn k (all _ k nd (Nat.lt_succ_self _) k0 h1) nd h1
 rw [h2] at this; exact tfE this
end
end
section
open PySem
section
variable {T T' P W P' W' : Tr} {b c g i j p x w : Int} {r nb nc t nd : Nd}
theorem putIn_at (h0 : T 0 = some r) (b0 : b ≠ 0) : putIn T 0 b w false 0 = some { r with kids := r.kids ++ [b], queue := qpush r.queue (r.lw, b) } ∧ putIn T 0 b w false b = some { nd0 w with par := some 0 } ∧ ∀ j, j ≠ 0 → j ≠ b → putIn T 0 b w false j = T j := by
 have e : putIn T 0 b w false = addChild (setN T b (nd0 w)) 0 b := by unfold putIn; rw [if_neg (by nofun)]
 rw [e, addChild_eq ((setN_ne T _ b0.symm).trans h0) (setN_same T b _)]
 refine ⟨setN_same .., ?_, fun j h1 h2 => ?_⟩
 ·rw [setN_ne _ _ b0, setN_same]
 ·rw [setN_ne _ _ h1, setN_ne _ _ h2, setN_ne _ _ h2]
theorem moved_at (h0 : T 0 = some r) (b0 : b ≠ 0) (hb : T b = some nb) : moved T 0 0 b false 0 = some { r with kids := r.kids.erase b ++ [b], queue := qpush (requeue r.queue b) (r.lw, b) } ∧ moved T 0 0 b false b = some { nb with par := some 0 } ∧ ∀ j, j ≠ 0 → j ≠ b → moved T 0 0 b false j = T j := by
 have e : moved T 0 0 b false = addChild (setN T 0 { r with kids := r.kids.erase b, queue := requeue r.queue b }) 0 b := by unfold moved cutChild; rw [if_neg (by nofun), h0]
 rw [e, addChild_eq (setN_same T 0 _) ((setN_ne T _ b0).trans hb)]
 refine ⟨setN_same .., ?_, fun j h1 h2 => ?_⟩
 ·rw [setN_ne _ _ b0, setN_same]
 ·rw [setN_ne _ _ h1, setN_ne _ _ h2, setN_ne _ _ h1]
theorem out_at (h0 : T 0 = some r) (b0 : b ≠ 0) (hb : T b = some nb) (hk : nb.kids = []) : takeOut T 0 b 0 = some { r with kids := r.kids.erase b, queue := requeue r.queue b } ∧ takeOut T 0 b b = none ∧ ∀ j, j ≠ 0 → j ≠ b → takeOut T 0 b j = T j := by
 have e : takeOut T 0 b = delN (setN T 0 { r with kids := r.kids.erase b, queue := requeue r.queue b }) b := by unfold takeOut rmChild cutChild; rw [if_pos rfl, hb, h0]; dsimp only; rw [hk]; rfl
 rw [e]
 refine ⟨?_, if_pos rfl, fun j h1 h2 => ?_⟩
 ·unfold delN; rw [if_neg b0.symm]; exact setN_same ..
 ·unfold delN; rw [if_neg h2]; exact setN_ne _ _ h1
structure Bare (nd : Nd) : Prop where
 par : nd.par = some 0
 kids : nd.kids = []
 queue : nd.queue = []
theorem told_loc (e : T b = T' b) (kind w : Int) : toldOf T kind b w = toldOf T' kind b w := by unfold toldOf; rw [e]
structure Loc (T T' : Tr) (b : Int) (A A' : Tr) : Prop where
 z : A 0 = A' 0
 e : A b = A' b
 f : ∀ nd, A b = some nd → Bare nd
 o : ∀ j, j ≠ 0 → j ≠ b → A j = T j
 o' : ∀ j, j ≠ 0 → j ≠ b → A' j = T' j
theorem deed_loc' (h0 : T 0 = some r) (h0' : T' 0 = some r) (b0 : b ≠ 0) (e : T b = T' b) (f : ∀ nd, T b = some nd → Bare nd) {kind : Int} : Loc T T' b (treeOf T kind b 0 w false) (treeOf T' kind b 0 w false) := by
 have stay : Loc T T' b T T' := ⟨h0.trans h0'.symm, e, f, fun _ _ _ => rfl, fun _ _ _ => rfl⟩
 unfold treeOf
 by_cases k3 : kind < 3
 ·rw [if_pos k3, if_pos k3]
  by_cases hb : T b = none
  ·rw [if_pos hb, if_pos (e.symm.trans hb)]
   by_cases hw : wok w
   ·rw [if_pos hw, if_pos hw]
    refine xo0_3 (putIn_at (w := w) h0 b0) fun a1 a2 a3 => ?_
    refine xo0_3 (putIn_at (w := w) h0' b0) fun c1 c2 c3 => ?_
    exact ⟨a1.trans c1.symm, a2.trans c2.symm, fun nd h => by rw [a2] at h; cases h; exact ⟨rfl, rfl, rfl⟩, a3, c3⟩
   ·rw [if_neg hw, if_neg hw]; exact stay
  ·rw [if_neg hb, if_neg fun z => hb (e.trans z)]; exact stay
 ·rw [if_neg k3, if_neg k3, ← e]
  cases hb : T b with
  | none => exact stay
  | some nb =>
   have hb' := e.symm.trans hb
   have F := f _ hb
   have pb : parOf T b = 0 := parOf_eq hb F.par
   have pb' : parOf T' b = 0 := parOf_eq hb' F.par
   dsimp only
   rw [pb, pb']
   have touch : ∀ nb' : Nd, nb'.par = nb.par → nb'.kids = nb.kids → nb'.queue = nb.queue → Loc T T' b (setN T b nb') (setN T' b nb') := fun nb' q1 q2 q3 => by
    refine ⟨by rw [setN_ne _ _ b0.symm, setN_ne _ _ b0.symm, h0, h0'], by rw [setN_same, setN_same], fun nd h => ?_, fun j _ h => setN_ne _ _ h, fun j _ h => setN_ne _ _ h⟩
    rw [setN_same] at h; obtain rfl := Option.some.inj h
    exact ⟨q1.trans F.par, q2.trans F.kids, q3.trans F.queue⟩
   by_cases e3 : kind = 3
   ·rw [if_pos e3, if_pos e3]
    by_cases hw : wok w
    ·rw [if_pos hw, if_pos hw]
     refine xo0_3 (moved_at (T := setN T b { nb with w := w }) ((setN_ne T _ b0.symm).trans h0) b0 (setN_same T b _)) fun a1 a2 a3 => ?_
     refine xo0_3 (moved_at (T := setN T' b { nb with w := w }) ((setN_ne T' _ b0.symm).trans h0') b0 (setN_same T' b _)) fun c1 c2 c3 => ?_
     exact ⟨a1.trans c1.symm, a2.trans c2.symm, fun nd h => by rw [a2] at h; cases h; exact ⟨rfl, F.kids, F.queue⟩, fun j h1 h2 => (a3 j h1 h2).trans (setN_ne _ _ h2), fun j h1 h2 => (c3 j h1 h2).trans (setN_ne _ _ h2)⟩
    ·rw [if_neg hw, if_neg hw]; exact stay
   ·rw [if_neg e3, if_neg e3]
    by_cases e6 : kind < 6
    ·rw [if_pos e6, if_pos e6]; exact touch _ rfl rfl rfl
    ·rw [if_neg e6, if_neg e6]
     by_cases e7 : kind = 6
     ·rw [if_pos e7, if_pos e7]; exact touch _ rfl rfl rfl
     ·rw [if_neg e7, if_neg e7]
      refine xo0_3 (out_at h0 b0 hb F.kids) fun a1 a2 a3 => ?_
      refine xo0_3 (out_at h0' b0 hb' F.kids) fun c1 c2 c3 => ?_
      exact ⟨a1.trans c1.symm, a2.trans c2.symm, fun nd h => (by rw [a2] at h; cases h), a3, c3⟩
theorem deed_loc (h0 : T 0 = some r) (h0' : T' 0 = some r) (b0 : b ≠ 0) (e : T b = T' b) (f : ∀ nd, T b = some nd → Bare nd) {kind : Int} (hk : 0 ≤ kind) :
  treeOf T kind b 0 w false 0 = treeOf T' kind b 0 w false 0 ∧ treeOf T kind b 0 w false b = treeOf T' kind b 0 w false b ∧ (∀ nd, treeOf T kind b 0 w false b = some nd → Bare nd) ∧
   (∀ j, j ≠ 0 → j ≠ b → treeOf T kind b 0 w false j = T j) ∧ ∀ j, j ≠ 0 → j ≠ b → treeOf T' kind b 0 w false j = T' j :=
 let L := deed_loc' (w := w) h0 h0' b0 e f (kind := kind); ⟨L.z, L.e, L.f, L.o, L.o'⟩
end
section
variable {T T' P W P' W' V O O' : Tr} {b c g i j p x w : Int} {r nb nc t nd : Nd} {D : Int → Prop} {s s' : Int × Int × Bool × Option Int}
theorem Emb.same (X : Emb g D s V O W) (h : ∀ j, D j ∨ j = g → W' j = W j) : Emb g D s W' O W' :=
 ⟨X.g0, X.D0, X.dom, by obtain ⟨o, w, h1, h2, h3⟩ := X.root; exact ⟨o, w, h1, (h g (.inr rfl)).trans h2, h3⟩, fun i hi => (h i (.inl hi)).trans (X.node i hi), fun _ _ _ => rfl⟩
theorem Emb.same2 (X : Emb g D s V O W) {w w' : Nd} (hw : W g = some w) (hw' : W' g = some w') (e1 : w'.kids = w.kids) (e2 : w'.queue = w.queue) (e3 : w'.lw = w.lw) (e4 : w'.st = s') (h : ∀ j, D j → W' j = W j) : Emb g D s' W' O W' :=
 ⟨X.g0, X.D0, X.dom, by
  refine xo2_6 X.root fun o w2 h1 h2 h3 h4 h5 _ => ?_
  rw [hw] at h2; obtain rfl := Option.some.inj h2
  exact ⟨o, w', h1, hw', e1.trans h3, e2.trans h4, e3.trans h5, e4⟩, fun i hi => (h i hi).trans (X.node i hi), fun _ _ _ => rfl⟩
theorem addChild_act (T : Tr) (p c j : Int) : (addChild T p c j).map (·.act) = (T j).map (·.act) := by
 cases h1 : T p with
 | none => unfold addChild; rw [h1]
 | some np =>
  cases h2 : T c with
  | none => unfold addChild; rw [h1, h2]
  | some nc =>
   rw [addChild_eq h1 h2]
   by_cases q : j = p
   ·subst q; rw [setN_same, h1]; rfl
   ·rw [setN_ne _ _ q]
    by_cases q2 : j = c
    ·subst q2; rw [setN_same, h2]; rfl
    ·rw [setN_ne _ _ q2]
theorem hangAll_act (p j : Int) (ks : List Int) : ∀ T : Tr, (hangAll T p ks j).map (·.act) = (T j).map (·.act) := by
 induction ks with
 | nil => intro T; rfl
 | cons k r ih => intro T; exact (ih (addChild T p k)).trans (addChild_act ..)
theorem cut_act (T : Tr) (q x j : Int) : (cutChild T q x j).map (·.act) = (T j).map (·.act) := by
 unfold cutChild
 cases h : T q with
 | none => rfl
 | some nq =>
  by_cases z : j = q
  ·subst z; rw [h]; dsimp only; rw [setN_same]; rfl
  ·dsimp only; rw [setN_ne _ _ z]
theorem excl_act (T : Tr) (p c j : Int) : (addExcl T p c j).map (·.act) = (T j).map (·.act) := by
 unfold addExcl
 cases h : T p with
 | none => rfl
 | some np =>
  refine (hangAll_act c j np.kids _).trans ((addChild_act ..).trans ?_)
  by_cases z : j = p
  ·subst z; rw [setN_same, h]; rfl
  ·rw [setN_ne _ _ z]
theorem treeOf_act {kind w : Int} {ex : Bool} (h : j ≠ x) : (treeOf T kind x p w ex j).map (·.act) = (T j).map (·.act) := by
 have s1 : ∀ nd, (setN T x nd j).map (·.act) = (T j).map (·.act) := fun nd => by rw [setN_ne _ _ h]
 unfold treeOf
 by_cases k3 : kind < 3
 ·rw [if_pos k3]
  by_cases hx : T x = none
  ·rw [if_pos hx]
   by_cases hw : wok w
   ·rw [if_pos hw]
    unfold putIn; split
    ·exact (excl_act ..).trans (s1 _)
    ·exact (addChild_act ..).trans (s1 _)
   ·rw [if_neg hw]
  ·rw [if_neg hx]
 ·rw [if_neg k3]
  cases hx : T x with
  | none => rfl
  | some nx =>
   dsimp only
   by_cases e3 : kind = 3
   ·rw [if_pos e3]
    by_cases hw : wok w
    ·rw [if_pos hw]
     unfold moved; split
     ·exact (excl_act ..).trans ((cut_act ..).trans (s1 _))
     ·exact (addChild_act ..).trans ((cut_act ..).trans (s1 _))
    ·rw [if_neg hw]
   ·rw [if_neg e3]
    by_cases e6 : kind < 6
    ·rw [if_pos e6]; exact s1 _
    ·rw [if_neg e6]
     by_cases e7 : kind = 6
     ·rw [if_pos e7]; exact s1 _
     ·rw [if_neg e7]
      unfold takeOut delN rmChild
      rw [if_neg h, if_pos rfl, hx]
      exact (hangAll_act ..).trans (cut_act ..)
noncomputable def Dg (g i : Int) : Prop := 9 ≤ i ∧ i ≤ 37 ∧ (i - g) % 6 = 0
abbrev Beside (b : Int) : Prop := b = 41 ∨ b = 43 ∨ b = 45
section
variable {g c b j : Int}
theorem Grp.n0 (h : g = 3 ∨ g = 5 ∨ g = 7) : g ≠ 0 := by omega
theorem Bs.n0 (h : Beside b) : b ≠ 0 := by rcases h with rfl | rfl | rfl <;> decide
theorem Grp.nbe (h : g = 3 ∨ g = 5 ∨ g = 7) (hb : Beside b) : g ≠ b := by rcases hb with rfl | rfl | rfl <;> omega
theorem Dg.n0 (h : Dg g j) : j ≠ 0 := by have := h.1; omega
theorem Dg.nbe (h : Dg g j) (hb : Beside b) : j ≠ b := by have := h.2.1; rcases hb with rfl | rfl | rfl <;> omega
theorem Dg.ng (h : Dg g j) (hc : c = 3 ∨ c = 5 ∨ c = 7) : j ≠ c := by have := h.1; omega
theorem Dg.apart (h : Dg g j) (hg : g = 3 ∨ g = 5 ∨ g = 7) (hc : c = 3 ∨ c = 5 ∨ c = 7) (q : g ≠ c) : ¬ Dg c j := fun h' => by
 have h := h.2.2
 have h' := h'.2.2
 rcases hg with rfl | rfl | rfl <;> rcases hc with rfl | rfl | rfl <;> first | exact q rfl | omega
theorem Dg.six (h : g = 3 ∨ g = 5 ∨ g = 7) : Dg g (g + 6) := by rcases h with rfl | rfl | rfl <;> exact ⟨by decide, by decide, by decide⟩
theorem Grp.rng (h : g = 3 ∨ g = 5 ∨ g = 7) : 0 < g ∧ g < 1000000000 := by rcases h with rfl | rfl | rfl <;> exact ⟨by decide, by decide⟩
theorem Dg.rng (h : Dg g j) : 0 < j ∧ j < 1000000000 := by have h1 := h.1; have h2 := h.2.1; clear h; omega
theorem In.far (h : j = g ∨ Dg g j) (hg : g = 3 ∨ g = 5 ∨ g = 7) (hc : c = 3 ∨ c = 5 ∨ c = 7) (q : c ≠ g) : ¬ (j = c ∨ j = c + 6) := by
 rintro (h' | h')
 ·rcases h with h | h
  ·exact q (h'.symm.trans h)
  ·exact h.ng hc h'
 ·have d : Dg c j := h' ▸ Dg.six hc
  rcases h with h | h
  ·exact d.ng hg h
  ·exact h.apart hg hc q.symm d
theorem Dg.line (nn : Int) : (3 + 2 * (nn % 3) = 3 ∨ 3 + 2 * (nn % 3) = 5 ∨ 3 + 2 * (nn % 3) = 7) ∧ Dg (3 + 2 * (nn % 3)) (21 + 2 * (nn % 9)) ∧ 21 + 2 * (nn % 9) ≠ 3 + 2 * (nn % 3) + 6 := by
 have h : nn % 3 = nn % 9 % 3 := (Int.emod_emod_of_dvd nn (by decide)).symm
 have h1 := Int.emod_nonneg nn (show (9 : Int) ≠ 0 by decide)
 have h2 := Int.emod_lt_of_pos nn (show (0 : Int) < 9 by decide)
 rw [h]
 generalize nn % 9 = a at h1 h2
 have : ∀ a : Fin 9, (3 + 2 * ((a : Int) % 3) = 3 ∨ 3 + 2 * ((a : Int) % 3) = 5 ∨ 3 + 2 * ((a : Int) % 3) = 7) ∧ (9 ≤ 21 + 2 * (a : Int) ∧ 21 + 2 * (a : Int) ≤ 37 ∧ (21 + 2 * (a : Int) - (3 + 2 * ((a : Int) % 3))) % 6 = 0) ∧ 21 + 2 * (a : Int) ≠ 3 + 2 * ((a : Int) % 3) + 6 := by decide
 refine xo1_1 (Int.eq_ofNat_of_zero_le h1) fun n e1_ => ?_; obtain rfl := e1_
 exact this ⟨n, Int.ofNat_lt.mp h2⟩
theorem In.n0 (hg : g = 3 ∨ g = 5 ∨ g = 7) (h : Dg g j ∨ j = g) : j ≠ 0 := h.elim Dg.n0 fun e => e ▸ Grp.n0 hg
theorem In.nbe (hg : g = 3 ∨ g = 5 ∨ g = 7) (h : Dg g j ∨ j = g) (hb : Beside b) : j ≠ b := h.elim (fun h => h.nbe hb) fun e => e ▸ Grp.nbe hg hb
theorem In.ng (h : Dg g j ∨ j = g) (hc : c = 3 ∨ c = 5 ∨ c = 7) (q : g ≠ c) : j ≠ c := h.elim (fun h => h.ng hc) fun e => e ▸ q
theorem In.apart (h : Dg g j ∨ j = g) (hg : g = 3 ∨ g = 5 ∨ g = 7) (hc : c = 3 ∨ c = 5 ∨ c = 7) (q : g ≠ c) : ¬ Dg c j := h.elim (fun h => h.apart hg hc q) fun e h' => (h'.ng hg) e
end
structure Sim (gs : List Int) (P W : Tr) (O : Int → Tr) : Prop where
 sub : ∀ g ∈ gs, g = 3 ∨ g = 5 ∨ g = 7
 z : W 0 = P 0
 be : ∀ b, Beside b → W b = P b ∧ ∀ nd, P b = some nd → Bare nd
 gr : ∀ g ∈ gs, ∃ t, P g = some t ∧ t.act = true ∧ Bare t ∧ Emb g (Dg g) (t.w, t.df, false, some 0) W (O g) W
 dom : ∀ i, P i ≠ none → i = 0 ∨ i ∈ gs ∨ Beside i
 act : ∀ g ∈ gs, ∃ nd, O g (g + 6) = some nd ∧ nd.act = true
variable {gs : List Int} {Os : Int → Tr}
theorem Sim.setB (S : Sim gs P W Os) (hb : Beside c) (z : W' 0 = P' 0) (e : W' c = P' c) (f : ∀ nd, P' c = some nd → Bare nd) (oP : ∀ j, j ≠ 0 → j ≠ c → P' j = P j) (oW : ∀ j, j ≠ 0 → j ≠ c → W' j = W j) : Sim gs P' W' Os := by
 refine ⟨S.sub, z, fun b h => ?_, fun g hg => ?_, fun i hi => ?_, S.act⟩
 ·by_cases q : b = c
  ·subst q; exact ⟨e, f⟩
  ·have b0 := Bs.n0 h
   refine xo0_2 (S.be b h) fun h1 h2 => ?_
   rw [oP b b0 q, oW b b0 q]; exact ⟨h1, h2⟩
 ·refine xo1_4 (S.gr g hg) fun t h1 h2 h3 X => ?_
  have s := S.sub g hg
  exact ⟨t, (oP g (Grp.n0 s) (Grp.nbe s hb)).trans h1, h2, h3, X.same fun j hj => oW j (In.n0 s hj) (In.nbe s hj hb)⟩
 ·by_cases q : i = 0
  ·exact .inl q
  ·by_cases q2 : i = c
   ·exact .inr (.inr (q2 ▸ hb))
   ·exact S.dom i fun w => hi ((oP i q q2).trans w)
theorem Sim.setG (S : Sim gs P W Os) (hg : c ∈ gs) (z : W' 0 = P' 0) {t w w' : Nd} (ht : P' c = some t) (ta : t.act = true) (tb : Bare t) (hw : W c = some w) (hw' : W' c = some w') (e1 : w'.kids = w.kids) (e2 : w'.queue = w.queue) (e3 : w'.lw = w.lw) (e4 : w'.st = (t.w, t.df, false, some 0))
  (oP : ∀ j, j ≠ 0 → j ≠ c → P' j = P j) (oW : ∀ j, j ≠ 0 → j ≠ c → W' j = W j) : Sim gs P' W' Os := by
 have c1 := S.sub c hg
 refine ⟨S.sub, z, fun b h => ?_, fun g hg' => ?_, fun i hi => ?_, S.act⟩
 ·refine xo0_2 (S.be b h) fun h1 h2 => ?_
  rw [oP b (Bs.n0 h) (Grp.nbe c1 h).symm, oW b (Bs.n0 h) (Grp.nbe c1 h).symm]; exact ⟨h1, h2⟩
 ·refine xo1_4 (S.gr g hg') fun t' h1 h2 h3 X => ?_
  have s := S.sub g hg'
  by_cases q : g = c
  ·subst q
   exact ⟨t, ht, ta, tb, X.same2 hw hw' e1 e2 e3 e4 fun j hj => oW j hj.n0 (hj.ng s)⟩
  ·exact ⟨t', (oP g (Grp.n0 s) q).trans h1, h2, h3, X.same fun j hj => oW j (In.n0 s hj) (In.ng hj c1 q)⟩
 ·by_cases q : i = 0
  ·exact .inl q
  ·by_cases q2 : i = c
   ·exact .inr (.inl (q2 ▸ hg))
   ·exact S.dom i fun w => hi ((oP i q q2).trans w)
theorem Sim.set0 (S : Sim gs P W Os) (nd : Nd) : Sim gs (setN P 0 nd) (setN W 0 nd) Os := by
 refine ⟨S.sub, by rw [setN_same, setN_same], fun b h => ?_, fun g hg => ?_, fun i hi => ?_, S.act⟩
 ·have b0 := Bs.n0 h
  rw [setN_ne _ _ b0, setN_ne _ _ b0]; exact S.be b h
 ·refine xo1_4 (S.gr g hg) fun t h1 h2 h3 X => ?_
  exact ⟨t, (setN_ne _ _ (Grp.n0 (S.sub g hg))).trans h1, h2, h3, X.same fun j hj => setN_ne _ _ (In.n0 (S.sub g hg) hj)⟩
 ·by_cases q : i = 0
  ·exact .inl q
  ·rw [setN_ne _ _ q] at hi; exact S.dom i hi
abbrev setO (Os : Int → Tr) (g : Int) (O : Tr) : Int → Tr := fun j => if j = g then O else Os j
theorem Sim.group (S : Sim gs P W Os) (hg : g ∈ gs) (ht : P g = some t) (X : Emb g (Dg g) (t.w, t.df, false, some 0) W O' W') (ha : ∃ nd, O' (g + 6) = some nd ∧ nd.act = true) : Sim gs P W' (setO Os g O') := by
 have g1 := S.sub g hg
 have o : ∀ j, ¬ Dg g j → j ≠ g → W' j = W j := X.out
 refine ⟨S.sub, (o 0 (fun q => Dg.n0 q rfl) (Grp.n0 g1).symm).trans S.z, fun b h => ?_, fun g' hg' => ?_, S.dom, fun g' hg' => ?_⟩
 ·rw [o b (fun q => Dg.nbe q h rfl) (Grp.nbe g1 h).symm]; exact S.be b h
 ·refine xo1_4 (S.gr g' hg') fun t' h1 h2 h3 Y => ?_
  have g2 := S.sub g' hg'
  by_cases q : g' = g
  ·subst q
   rw [ht] at h1; obtain rfl := Option.some.inj h1
   refine ⟨t, ht, h2, h3, ?_⟩
   rw [show setO Os g' O' g' = O' from if_pos rfl]
   exact X.same fun _ _ => rfl
  ·refine ⟨t', h1, h2, h3, ?_⟩
   rw [show setO Os g O' g' = Os g' from if_neg q]
   exact Y.same fun j hj => o j (In.apart hj g2 g1 q) (In.ng hj g1 q)
 ·by_cases q : g' = g
  ·subst q; rw [show setO Os g' O' g' = O' from if_pos rfl]; exact ha
  ·rw [show setO Os g O' g' = Os g' from if_neg q]; exact S.act g' hg'
end
end
section
open PySem
section
variable {T T' P W P' W' V O O' : Tr} {b c g i j p x w kind : Int} {r ni nb nc t nd : Nd} {gs : List Int} {Os : Int → Tr} {M d : Nat} {ex : Bool}
theorem Sim.deed (S : Sim gs P W Os) (hg : g ∈ gs) (T : WT M (Os g)) (hx : Dg g x) (x6 : x ≠ g + 6) (hp : Os g p ≠ none) (hm : kind = 3 → Os g x ≠ none → p ≠ x) :
  toldOf W kind x w = toldOf (Os g) kind x w ∧ Sim gs P (treeOf W kind x (fi g p) w ex) (setO Os g (treeOf (Os g) kind x p w ex)) := by
 refine xo1_4 (S.gr g hg) fun t h1 h2 h3 X => ?_
 refine ⟨X.told hx kind w, S.group hg h1 (X.deed T hx hp hm) ?_⟩
 refine xo1_2 (S.act g hg) fun nd a1 a2 => ?_
 have := treeOf_act (T := Os g) (kind := kind) (p := p) (w := w) (ex := ex) (fun z => x6 z.symm : g + 6 ≠ x)
 rw [a1] at this
 cases q : treeOf (Os g) kind x p w ex (g + 6) with
 | none => rw [q] at this; exact nsE this
 | some nd' =>
  rw [q] at this
  exact ⟨nd', rfl, (Option.some.inj this).trans a2⟩
theorem Sim.beside (S : Sim gs P W Os) (hb : Beside b) (h0 : P 0 = some r) (hk : 0 ≤ kind) : toldOf W kind b w = toldOf P kind b w ∧ Sim gs (treeOf P kind b 0 w false) (treeOf W kind b 0 w false) Os := by
 refine xo0_2 (S.be b hb) fun e f => ?_
 have b0 : b ≠ 0 := by unfold Beside at hb; omega
 refine xo0_5 (deed_loc (w := w) h0 (S.z.trans h0) b0 e.symm f hk) fun z1 z2 z3 z4 z5 => ?_
 exact ⟨told_loc e kind w, S.setB hb z1.symm z2.symm z3 z4 z5⟩
theorem Sim.weigh (S : Sim gs P W Os) (hg : g ∈ gs) (h0 : P 0 = some r) : toldOf W 3 g w = toldOf P 3 g w ∧ Sim gs (treeOf P 3 g 0 w false) (treeOf W 3 g 0 w false) Os := by
 refine xo1_4 (S.gr g hg) fun t h1 h2 h3 X => ?_
 have g1 := S.sub g hg
 have g0 : g ≠ 0 := by omega
 refine xo2_6 X.root fun o wg x1 x2 x3 x4 x5 x6 => ?_
 have nP : P g ≠ none := by rw [h1]; nofun
 have nW : W g ≠ none := by rw [x2]; nofun
 have pP : parOf P g = 0 := parOf_eq h1 h3.par
 have pW : parOf W g = 0 := parOf_eq x2 (congrArg (·.2.2.2) x6)
 have h0' : W 0 = some r := S.z.trans h0
 constructor
 ·unfold toldOf
  rw [if_neg (show ¬ (3 : Int) < 3 by decide), if_neg nW, if_neg (show ¬ (3 : Int) < 3 by decide), if_neg nP]
 ·unfold treeOf
  rw [if_neg (by decide), if_neg (by decide), h1, x2, pP, pW]
  dsimp only
  rw [if_pos rfl, if_pos rfl]
  by_cases hw : wok w
  ·rw [if_pos hw, if_pos hw]
   refine xo0_3 (moved_at (T := setN P g { t with w := w }) ((setN_ne P _ g0.symm).trans h0) g0 (setN_same P g _)) fun a1 a2 a3 => ?_
   refine xo0_3 (moved_at (T := setN W g { wg with w := w }) ((setN_ne W _ g0.symm).trans h0') g0 (setN_same W g _)) fun c1 c2 c3 => ?_
   refine S.setG hg (c1.trans a1.symm) a2 h2 ⟨rfl, h3.kids, h3.queue⟩ x2 c2 rfl rfl rfl ?_ (fun j z1 z2 => (a3 j z1 z2).trans (setN_ne _ _ z2)) fun j z1 z2 => (c3 j z1 z2).trans (setN_ne _ _ z2)
   have : wg.df = t.df ∧ wg.act = false := ⟨congrArg (·.2.1) x6, congrArg (·.2.2.1) x6⟩
   show (w, wg.df, wg.act, some (0 : Int)) = _
   rw [this.1, this.2]
  ·rw [if_neg hw, if_neg hw]; exact S
theorem Sim.turn1 (S : Sim gs P W Os) (h0 : P 0 = some ni) {y : Int × Int} (y0 : y.2 ≠ 0) (hy : P y.2 = some nc) : Sim gs (Mine.turn1 P 0 y) (Mine.turn1 W 0 y) Os := by
 have h0' : W 0 = some ni := S.z.trans h0
 have oP : ∀ j, j ≠ 0 → j ≠ y.2 → Mine.turn1 P 0 y j = P j := fun j z1 z2 => by rw [turn1_eq h0 hy, setN_ne _ _ z1, setN_ne _ _ z2]
 rcases S.dom y.2 (by rw [hy]; nofun) with z | hg | hb
 ·exact (y0 z).elim
 ·refine xo1_4 (S.gr _ hg) fun t h1 h2 h3 X => ?_
  rw [hy] at h1; obtain rfl := Option.some.inj h1
  refine xo2_6 X.root fun o wg x1 x2 x3 x4 x5 x6 => ?_
  have e1 : wg.w = nc.w := congrArg (·.1) x6
  have e2 : wg.df = nc.df := congrArg (·.2.1) x6
  have oW : ∀ j, j ≠ 0 → j ≠ y.2 → Mine.turn1 W 0 y j = W j := fun j z1 z2 => by rw [turn1_eq h0' x2, setN_ne _ _ z1, setN_ne _ _ z2]
  refine S.setG (t := { nc with df := Int.fmod (256 + nc.df) nc.w }) (w' := { wg with df := Int.fmod (256 + wg.df) wg.w }) hg ?_ ?_ h2 ⟨h3.par, h3.kids, h3.queue⟩ x2 ?_ rfl rfl rfl ?_ oP oW
  ·rw [turn1_eq h0 hy, turn1_eq h0' x2, setN_same, setN_same, e1, e2]
  ·rw [turn1_eq h0 hy, setN_ne _ _ y0, setN_same]
  ·rw [turn1_eq h0' x2, setN_ne _ _ y0, setN_same]
  ·have : wg.act = false ∧ wg.par = some 0 := ⟨congrArg (·.2.2.1) x6, congrArg (·.2.2.2) x6⟩
   show (wg.w, Int.fmod (256 + wg.df) wg.w, wg.act, wg.par) = _
   rw [e1, e2, this.1, this.2]
 ·refine xo0_2 (S.be _ hb) fun e f => ?_
  have hy' : W y.2 = some nc := e.trans hy
  have F := f _ hy
  refine S.setB hb ?_ ?_ ?_ oP fun j z1 z2 => by rw [turn1_eq h0' hy', setN_ne _ _ z1, setN_ne _ _ z2]
  ·rw [turn1_eq h0 hy, turn1_eq h0' hy', setN_same, setN_same]
  ·rw [turn1_eq h0 hy, turn1_eq h0' hy', setN_ne _ _ y0, setN_ne _ _ y0, setN_same, setN_same]
  ·intro nd h
   rw [turn1_eq h0 hy, setN_ne _ _ y0, setN_same] at h
   obtain rfl := Option.some.inj h
   exact ⟨F.par, F.kids, F.queue⟩
theorem Sim.spent : ∀ (xs : List (Int × Int)) {P W : Tr} {ni : Nd}, Sim gs P W Os → P 0 = some ni → (∀ y ∈ xs, y.2 ≠ 0 ∧ P y.2 ≠ none) → Sim gs (Mine.spent P 0 xs) (Mine.spent W 0 xs) Os := by
 intro xs
 induction xs with
 | nil => intro P W ni S _ _; exact S
 | cons y r ih =>
  intro P W ni S h0 hx
  refine xo0_2 (hx y (.head _)) fun y0 hy => ?_
  refine xo1_1 (Option.ne_none_iff_exists'.mp hy) fun nc hc => ?_
  have e := turn1_eq h0 hc
  exact ih (S.turn1 h0 y0 hc) (show Mine.turn1 P 0 y 0 = _ by rw [e]; exact setN_same ..) fun z hz => ⟨(hx z (.tail _ hz)).1, by
   show Mine.turn1 P 0 y z.2 ≠ none
   rw [e]; exact setN_dom (setN_dom (hx z (.tail _ hz)).2)⟩
noncomputable def Found (gs : List Int) (d : Nat) (Os : Int → Tr) (P W : Tr) (a b : Option Int) : Prop :=
 ∃ c, a = some c ∧ ((Beside c ∧ b = some c ∧ Sim gs P W Os) ∨ (c ∈ gs ∧ ∃ y, (Mine.sched d (Os c) 0).2 = some y ∧ b = some y ∧ Sim gs P W (setO Os c (Mine.sched d (Os c) 0).1)))
theorem sched_leaf (h : T c = some nc) (hq : nc.queue = []) : Mine.sched (d + 1) T c = (T, none) := by
 rw [sched_eq h, hq]; rfl
theorem Sim.seek (hM : M ≤ 900) (hd : M < d + 1) (wt : ∀ g ∈ gs, WT M (Os g)) : ∀ (q : List (Int × Int)) (P W : Tr) (acc : List (Int × Int)) (ni : Nd), Sim gs P W Os → P 0 = some ni → ni.queue = q → (∀ y ∈ q, y.2 ≠ 0 ∧ P y.2 ≠ none) →
  (Mine.seek (Mine.sched (d + 1)) 0 q P acc).2.2 ≠ none → (Mine.seek (Mine.sched (d + 1)) 0 q W acc).2.1 = (Mine.seek (Mine.sched (d + 1)) 0 q P acc).2.1 ∧
   Found gs (d + 1) Os (Mine.seek (Mine.sched (d + 1)) 0 q P acc).1 (Mine.seek (Mine.sched (d + 1)) 0 q W acc).1 (Mine.seek (Mine.sched (d + 1)) 0 q P acc).2.2 (Mine.seek (Mine.sched (d + 1)) 0 q W acc).2.2 := by
 intro q
 induction q with
 | nil => intro P W acc ni _ _ _ _ h; exact (h rfl).elim
 | cons y r ih =>
  intro P W acc ni S h0 e hy hn
  refine xo0_2 (hy y (.head _)) fun y0 yn => ?_
  refine xo1_1 (Option.ne_none_iff_exists'.mp yn) fun nc hc => ?_
  have h0' : W 0 = some ni := S.z.trans h0
  have S1 := S.set0 { ni with queue := r }
  rcases S.dom y.2 yn with z | hg | hb
  ·exact (y0 z).elim
  ·refine xo1_4 (S1.gr _ hg) fun t h1 h2 h3 X => ?_
   rw [setN_ne _ _ y0] at h1
   rw [hc] at h1; obtain rfl := Option.some.inj h1
   refine xo2_6 X.root fun o wg x1 x2 x3 x4 x5 x6 => ?_
   rw [setN_ne _ _ y0] at x2
   have wa : wg.act = false := congrArg (·.2.2.1) x6
   refine xo1_2 ((wt _ hg).ws hM) fun rk ws rl => ?_
   have r0 := rl 0
   obtain ⟨k1, k2⟩ := X.sched (d + 1) _ _ 0 ws (wt _ hg).n0 (by omega) (by rw [x1]; nofun)
   rw [fi_0] at k1 k2
   refine xo1_2 (S.act _ hg) fun na a1 a2 => ?_
   have g1 := S.sub _ hg
   have bz := WD.busy (W' := wt _ hg) ws (d := d + 1) (by omega) ⟨y.2 + 6, na, by omega, a1, a2⟩
   refine xo1_1 (Option.ne_none_iff_exists'.mp bz) fun z hz => ?_
   rw [seek_act h0 hc h2, seek_sub h0' x2 wa]
   cases hr : Mine.sched (d + 1) (setN W 0 { ni with queue := r }) y.2 with
   | mk W2 o2 =>
    rw [hr] at k1 k2
    dsimp only at k1 k2
    rw [hz] at k1
    subst k1
    dsimp only
    refine ⟨rfl, y.2, rfl, .inr ⟨hg, z, hz, rfl, S1.group hg ((setN_ne _ _ y0).trans hc) k2 ?_⟩⟩
    obtain ⟨na', b1, b2⟩ := ((sched_ok (d + 1) _ 0 ws (by omega) (by rw [x1]; nofun)).like (y.2 + 6)).get a1
    exact ⟨na', b1, b2.act.trans a2⟩
  ·refine xo0_2 (S.be _ hb) fun eb f => ?_
   have F := f _ hc
   have hc' : W y.2 = some nc := eb.trans hc
   cases ha : nc.act with
   | true =>
    rw [seek_act h0 hc ha, seek_act h0' hc' ha]
    exact ⟨rfl, y.2, rfl, .inl ⟨hb, rfl, S1⟩⟩
   | false =>
    have l1 : Mine.sched (d + 1) (setN P 0 { ni with queue := r }) y.2 = (setN P 0 { ni with queue := r }, none) := sched_leaf ((setN_ne _ _ y0).trans hc) F.queue
    have l2 : Mine.sched (d + 1) (setN W 0 { ni with queue := r }) y.2 = (setN W 0 { ni with queue := r }, none) := sched_leaf ((setN_ne _ _ y0).trans hc') F.queue
    rw [seek_sub h0 hc ha, l1] at hn ⊢
    rw [seek_sub h0' hc' ha, l2]
    exact ih _ _ _ _ S1 (setN_same ..) rfl (fun z hz => ⟨(hy z (.tail _ hz)).1, setN_dom (hy z (.tail _ hz)).2⟩) hn
theorem Sim.turn (hM : M + 2 < d) (hd : d ≤ 800) (S : Sim gs P W Os) (wP : WT M P) (wt : ∀ g ∈ gs, WT M (Os g)) (hg : g ∈ gs) : Found gs d Os (Mine.sched d P 0).1 (Mine.sched d W 0).1 (Mine.sched d P 0).2 (Mine.sched d W 0).2 := by
 obtain ⟨d, rfl⟩ : ∃ e, d = e + 2 := ⟨d - 2, by omega⟩
 refine xo1_2 (wP.ws (by omega)) fun rk ws rl => ?_
 have r0 := rl 0
 refine xo1_3 (S.gr g hg) fun t h1 h2 _ => ?_
 have g1 := S.sub g hg
 have bz := WD.busy (W' := wP) ws (d := d + 2) (by omega) ⟨g, t, by omega, h1, h2⟩
 refine xo1_2 wP.root fun ni h0 _ => ?_
 have h0' : W 0 = some ni := S.z.trans h0
 rw [sched_eq (d := d + 1) h0] at bz ⊢
 rw [sched_eq (d := d + 1) h0']
 refine xm_aeaa (S.seek (d := d) (by omega) (by omega) wt ni.queue P W [] ni h0 rfl (fun y hy => ⟨wP.n0 _ _ h0 y hy, (ws.q _ _ h0 y hy).1⟩) bz) fun k1 c k2 k3 => ?_
 refine xo2_5 (seek_ok (i := 0) (rk := rk) (sub := Mine.sched (d + 1)) (fun T c W hc hn => sched_ok (d + 1) T c W (by omega) hn) ni.queue P [] ni ws h0 rfl) fun took rest b1 b2 b3 b4 b5 => ?_
 rw [List.nil_append] at b2
 have sp : ∀ Os' W', Sim gs (Mine.seek (Mine.sched (d + 1)) 0 ni.queue P []).1 W' Os' → Sim gs (Mine.spent (Mine.seek (Mine.sched (d + 1)) 0 ni.queue P []).1 0 took) (Mine.spent W' 0 took) Os' := fun Os' W' S' => Sim.spent took S' b3 fun y hy => by
  have hq : y ∈ ni.queue := by rw [b1]; exact List.mem_append_left _ hy
  have y0 := wP.n0 _ _ h0 y hq
  exact ⟨y0, fun w => (ws.q _ _ h0 y hq).1 ((b4 _ y0).none.mpr w)⟩
 dsimp only
 rw [k1, b2]
 refine ⟨c, k2, ?_⟩
 rcases k3 with ⟨q1, q2, q3⟩ | ⟨q1, y, q2, q3, q4⟩
 ·exact .inl ⟨q1, q2, sp _ _ q3⟩
 ·refine xo1_2 ((wt _ q1).ws (by omega)) fun rk' ws' rl' => ?_
  have r0' := rl' 0
  refine xo1_2 ((wt _ q1).root) fun o o1 _ => ?_
  have fu := sched_fuel (d + 1) (Os c) 0 ws' (by omega) (by rw [o1]; nofun)
  rw [fu] at q2 q4
  exact .inr ⟨q1, y, q2, q3, sp _ _ q4⟩
end
end
section
open PySem
section
variable {A A' cl ql : Ad} {Φ : Fo} {F G G' h : Hp} {t a d n : Nat} {T : Tr} {M N : Nat} {mx : Int} {es : List (AV × AV)}
theorem TR.keep (X : TR A t a d mx es T G) (hA : A' t = A t) (ha : G' a = G a) (hd : G' d = G d) : TR A' t a d mx es T G' :=
 ⟨by rw [ha]; show G a = some (.inst 68 [(70, .loc (A' t 0)), (71, .loc d), (76, .int mx)]); rw [hA]; exact X.obj, hd.trans X.dict, fun i => by rw [hA]; exact X.ent i, X.len⟩
theorem Tre.keep (X : Tre M A t a d T G) (hM : M ≤ N) (hA : A' t = A t) (ha : G' a = G a) (hd : G' d = G d) : Tre N A' t a d T G' := by
 obtain ⟨es, x, o, l⟩ := X.tr
 exact ⟨⟨es, x.keep hA ha hd, o, by omega⟩, X.wt.more hM⟩
theorem Tre.obj (X : Tre M A t a d T G) : ∃ as, G a = some (.inst 68 as) := by
 obtain ⟨es, x, _⟩ := X.tr
 exact ⟨_, x.obj⟩
theorem Tre.dict (X : Tre M A t a d T G) : ∃ es, G d = some (.dict es) := by
 obtain ⟨es, x, _⟩ := X.tr
 exact ⟨_, x.dict⟩
end
inductive WEx (k M : Nat) (a d : Nat → Nat) (Φ : Fo) (F h : Hp) (n : Nat) : Prop
 | intro (A cl ql : Ad) (G : Hp) (R : Rep A cl ql Φ G h n) (tre : ∀ t, t < k → Tre M A t (a t) (d t) (Φ t) G) (fo : ∀ l o, F l = some o → G l = some o ∧ ∀ t, t < k → l ≠ a t ∧ l ≠ d t)
structure World (k M : Nat) (a d : Nat → Nat) (Φ : Fo) (F h : Hp) (n : Nat) : Prop where
 ex : WEx k M a d Φ F h n
 inj : ∀ t u, t < k → u < k → d t = d u → t = u
 no : ∀ t, k ≤ t → Φ t = emp
section
variable {C : Nat → List AV → St → R AV} {E : Est} {k n : Nat} {h : Hp} {L : Lo} {M : Nat} {a d : Nat → Nat} {F : Hp} {Φ : Fo} {t hd l N : Nat} {o : AO} {x p kind w : Int} {ex : Bool} {Q : Pst AV}
theorem World.wt (X : World k M a d Φ F h n) (ht : t < k) : WT M (Φ t) := by
 obtain ⟨A, cl, ql, G, R, tre, fo⟩ := X.ex
 exact (tre t ht).wt
theorem World.get (X : World k M a d Φ F h n) (e : F l = some o) : h l = some o := by
 obtain ⟨A, cl, ql, G, R, tre, fo⟩ := X.ex
 exact R.old _ _ (fo _ _ e).1
theorem World.lt (X : World k M a d Φ F h n) (e : F l = some o) : l < n := by
 obtain ⟨A, cl, ql, G, R, tre, fo⟩ := X.ex
 exact R.lt _ _ (R.old _ _ (fo _ _ e).1)
theorem World.more (X : World k M a d Φ F h n) (hM : M ≤ N) : World k N a d Φ F h n := by
 obtain ⟨A, cl, ql, G, R, tre, fo⟩ := X.ex
 exact ⟨⟨A, cl, ql, G, R, fun t ht => (tre t ht).keep hM rfl rfl rfl, fo⟩, X.inj, X.no⟩
theorem World.junk (X : World k M a d Φ F h n) (o : AO) : World k M a d Φ F (upd h n o) (n + 1) := by
 obtain ⟨A, cl, ql, G, R, tre, fo⟩ := X.ex
 exact ⟨⟨A, cl, ql, G, R.junk o, tre, fo⟩, X.inj, X.no⟩
theorem World.new (X : World k M a d Φ F h n) (o : AO) : World k M a d Φ (upd F n o) (upd h n o) (n + 1) := by
 obtain ⟨A, cl, ql, G, R, tre, fo⟩ := X.ex
 have al : ∀ t, t < k → a t < n ∧ d t < n := fun t ht => by
  refine xo1_1 ((tre t ht).obj) fun as h1 => ?_
  refine xo1_1 ((tre t ht).dict) fun es h2 => ?_
  exact ⟨R.lt _ _ (R.old _ _ h1), R.lt _ _ (R.old _ _ h2)⟩
 refine ⟨⟨A, cl, ql, upd G n o, R.new o, fun t ht => ?_, fun l o' e => ?_⟩, X.inj, X.no⟩
 ·have := al t ht
  exact (tre t ht).keep (Nat.le_refl _) rfl (upd_ne _ _ (by omega)) (upd_ne _ _ (by omega))
 ·by_cases q : l = n
  ·subst q
   rw [upd_same] at e ⊢
   exact ⟨e, fun t ht => by have := al t ht; omega⟩
  ·rw [upd_ne _ _ q] at e ⊢
   exact fo _ _ e
theorem World.put (X : World k M a d Φ F h n) (hl : F l = some o) (nt : isTup o = false) (o' : AO) : World k M a d Φ (upd F l o') (upd h l o') n := by
 obtain ⟨A, cl, ql, G, R, tre, fo⟩ := X.ex
 refine xo0_2 (fo _ _ hl) fun g1 g2 => ?_
 refine ⟨⟨A, cl, ql, upd G l o', R.put g1 nt o', fun t ht => ?_, fun m o2 e => ?_⟩, X.inj, X.no⟩
 ·have := g2 t ht
  exact (tre t ht).keep (Nat.le_refl _) rfl (upd_ne _ _ this.1.symm) (upd_ne _ _ this.2.symm)
 ·by_cases q : m = l
  ·subst q
   rw [upd_same] at e ⊢
   exact ⟨e, g2⟩
  ·rw [upd_ne _ _ q] at e ⊢
   exact fo _ _ e
theorem World.sub {F' : Hp} (X : World k M a d Φ F h n) (s : ∀ l o, F' l = some o → F l = some o) : World k M a d Φ F' h n := by
 obtain ⟨A, cl, ql, G, R, tre, fo⟩ := X.ex
 exact ⟨⟨A, cl, ql, G, R, tre, fun l o e => fo _ _ (s _ _ e)⟩, X.inj, X.no⟩
theorem World.meth (X : World k M a d Φ F h n) (ht : t < k) {m f : Nat} (hm : sg.me 68 m = .fn f) (hx : ∀ A t d mx, get? (tatt A t d mx) m = none) : methodOf sg (.loc (a t)) m ⟨L, h, n, hd⟩ = some (.fn f) := by
 obtain ⟨A, cl, ql, G, R, tre, fo⟩ := X.ex
 obtain ⟨es, TX, _⟩ := (tre t ht).tr
 exact methT R TX hm (hx _ _ _ _)
theorem World.step {A A' cl' ql' : Ad} {G G' h' : Hp} {n' : Nat} {T' : Tr} (X : World k M a d Φ F h n) (ht : t < k) (hM : M ≤ N) (tre : ∀ t, t < k → Tre M A t (a t) (d t) (Φ t) G) (fo : ∀ l o, F l = some o → G l = some o ∧ ∀ t, t < k → l ≠ a t ∧ l ≠ d t)
  (R' : Rep A' cl' ql' (setT Φ t T') G' h' n') (tr' : Tre N A' t (a t) (d t) T' G') (hA : ∀ u, u ≠ t → A' u = A u) (hG : ∀ l, l ≠ d t → G' l = G l) : World k N a d (setT Φ t T') F h' n' := by
 refine ⟨⟨A', cl', ql', G', R', fun u hu => ?_, fun l o e => ?_⟩, X.inj, fun u hu => ?_⟩
 ·by_cases q : u = t
  ·subst q; rw [setT_same]; exact tr'
  ·rw [setT_ne _ _ q]
   refine xo1_1 ((tre u hu).obj) fun as h1 => ?_
   refine xo1_1 ((tre t ht).dict) fun es h2 => ?_
   exact (tre u hu).keep hM (hA u q) (hG _ fun w => by rw [w, h2] at h1; cases h1) (hG _ fun w => q (X.inj _ _ hu ht w))
 ·refine xo0_2 (fo _ _ e) fun e1 e2 => ?_
  exact ⟨(hG l (e2 t ht).2).trans e1, e2⟩
 ·rw [setT_ne _ _ (by omega)]; exact X.no u hu
theorem World.deed (m : Nat) (X : World k M a d Φ F h n) (ht : t < k) (hM : M < 400) {pv : AV} (h0 : 0 < x ∧ x < 1000000000) (hpv : pv = .int p ∨ (pv = .none ∧ p = 0)) (hp : Φ t p ≠ none)
  (hmv : kind = 3 → Φ t x ≠ none → p ≠ x ∧ ¬ SB (Φ t) x p ∧ (p = 0 ∨ climb (Φ t) 100 p x = some false))
  (hQ : ∀ h' n', World k (M + 1) a d (setT Φ t (treeOf (Φ t) kind x p w ex)) F h' n' → Q (toldOf (Φ t) kind x w) L h' n' 0) :
  Wp (callF sg (m + 8) 29 [.loc (a t), .int kind, .int x, pv, .int w, .bool ex] ⟨L, h, n, 0⟩) Q E := by
 obtain ⟨A, cl, ql, G, R, tre, fo⟩ := X.ex
 refine f29 (Φ := Φ) m (by rw [setT_self]; exact R) (tre t ht) hM h0 hpv hp hmv fun A' cl' ql' G' h' n' R' T' hA hG => hQ _ _ ?_
 exact X.step ht (Nat.le_succ _) tre fo R' T' hA hG
theorem World.next (m : Nat) {dd : Nat} (X : World k M a d Φ F h n) (ht : t < k) (hM : M ≤ 900) (hdd : M < dd) (hs : (sched dd (Φ t) 0).2 ≠ none)
  (hQ : ∀ x h' n', (sched dd (Φ t) 0).2 = some x → World k M a d (setT Φ t (sched dd (Φ t) 0).1) F h' n' → Q (.int x) L h' n' 0) : Wp (callF sg (m + 4 + dd + 1 + 1) 28 [.loc (a t)] ⟨L, h, n, 0⟩) Q E := by
 obtain ⟨A, cl, ql, G, R, tre, fo⟩ := X.ex
 have W := (tre t ht).wt
 obtain ⟨es, TX, on, le⟩ := (tre t ht).tr
 refine xo1_2 (W.ws hM) fun rk ws rl => ?_
 refine xo1_3 W.root fun r r1 r2 _ => ?_
 have r0 := rl 0
 refine f28 (Φ := Φ) (rk := rk) m (by rw [setT_self]; exact R) TX ws (by omega) r1 r2 (fun x h' n' e R' => hQ x h' n' e ?_) fun h' n' e _ => (hs e).elim
 have tn := sched_ok dd (Φ t) 0 ws (by omega) (by rw [r1]; nofun)
 refine X.step ht (Nat.le_refl _) tre fo R' ⟨⟨es, TX.like fun j => (tn.like j).none, on, le⟩, W.like tn.like⟩ (fun _ _ => rfl) fun _ _ => rfl
theorem World.insert (m : Nat) (X : World k M a d Φ F h n) (ht : t < k) (hM : M < 400) {pv : AV} (h0 : 0 < x ∧ x < 1000000000) (hpv : pv = .int p ∨ (pv = .none ∧ p = 0)) (hp : Φ t p ≠ none) (hx : Φ t x = none) (hw : 1 ≤ w ∧ w ≤ 256)
  (hQ : ∀ h' n', World k (M + 1) a d (setT Φ t (putIn (Φ t) p x w ex)) F h' n' → Q .none L h' n' 0) :
  Wp (callF sg (m + 7) 21 [.loc (a t), .int x, pv, .int w, .bool ex] ⟨L, h, n, 0⟩) Q E := by
 obtain ⟨A, cl, ql, G, R, tre, fo⟩ := X.ex
 have W := (tre t ht).wt
 obtain ⟨es, TX, on, le⟩ := (tre t ht).tr
 refine xo1_1 (Option.ne_none_iff_exists'.mp hp) fun np hnp => ?_
 have px : p ≠ x := fun e => by subst e; exact hp hx
 have PI := W.putIn hx hnp (by omega) px hw hM ex
 refine f21 (Φ := Φ) m (by rw [setT_self]; exact R) (Nat.zero_le _) TX h0 (by omega) (fun e => W.noRef e) hpv (fun e => (e hx).elim) (fun _ e => (e hw).elim) (fun _ => px) (fun _ _ => ⟨np, W.takes (by omega) hnp, PI.2⟩) fun _ _ cl' ql' h' n' R' => hQ _ _ ?_
 refine X.step ht (Nat.le_succ _) tre fo R' ?_ (fun u hu => ?_) fun l hl => upd_ne _ _ hl
 ·refine ⟨⟨_, TX.put (by omega) (by omega) (fun j hj => ?_) ?_, on.put _ _, by have := dput_l es (.int x) (.loc n); omega⟩, PI.1⟩
  ·rw [putIn_none, setN_ne _ _ hj]
  ·rw [ne_eq, putIn_none, setN_same]; nofun
 ·funext j; exact updA_ne _ _ fun z => hu z.1
theorem World.block (m : Nat) (X : World k M a d Φ F h n) (ht : t < k) (h0 : 0 < x ∧ x < 1000000000) {nd : Nd} (hx : Φ t x = some nd)
  (hQ : ∀ h', World k M a d (setT Φ t (setN (Φ t) x { nd with act := false })) F h' n → Q .none L h' n 0) :
  Wp (callF sg (m + 1) 24 [.loc (a t), .int x] ⟨L, h, n, 0⟩) Q E := by
 obtain ⟨A, cl, ql, G, R, tre, fo⟩ := X.ex
 have W := (tre t ht).wt
 obtain ⟨es, TX, on, le⟩ := (tre t ht).tr
 refine f24 (Φ := Φ) m (by rw [setT_self]; exact R) TX h0 (fun nx e h' R' => ?_) fun e => by rw [hx] at e; exact snE e
 rw [hx] at e; obtain rfl := Option.some.inj e
 refine hQ _ (X.step ht (Nat.le_refl _) tre fo R' ⟨⟨es, TX.like fun j => (setN_none (by rw [hx]; nofun)).symm, on, le⟩, W.touch hx (W.w _ nd hx) (fun z => by omega) rfl rfl (.refl _)⟩ (fun _ _ => rfl) fun _ _ => rfl)
noncomputable def tree0 : Tr := setN emp 0 root0
theorem wt0 : WT 1 tree0 := by
 have at0 : ∀ {i nd}, tree0 i = some nd → i = 0 ∧ nd = root0 := fun {i nd} e => by
  unfold tree0 at e
  by_cases q : i = 0
  ·subst q; rw [setN_same] at e; cases e; exact ⟨rfl, rfl⟩
  ·rw [setN_ne _ _ q] at e; exact nsE e
 refine ⟨⟨root0, setN_same .., rfl, rfl⟩, fun i nd e => ?_, fun i nd e h => (h (at0 e).1).elim, fun p np e i hi => ?_, fun p np e => ?_, fun p np e => ?_, ⟨fun _ => 0, fun p np e i hi => ?_⟩, ⟨[0], Nat.le_refl _, fun i h => ?_⟩⟩
 ·rw [(at0 e).2]; decide
 ·rw [(at0 e).2] at hi; exact absurd hi nofun
 ·rw [(at0 e).2]; exact .refl _
 ·rw [(at0 e).2]; exact List.nodup_nil
 ·rw [(at0 e).2] at hi; exact absurd hi nofun
 ·refine xo1_1 (Option.ne_none_iff_exists'.mp h) fun nd e => ?_
  rw [(at0 e).1]; exact .head _
abbrev setD (d : Nat → Nat) (k x : Nat) : Nat → Nat := fun t => if t = k then x else d t
theorem World.tree (m : Nat) (X : World k M a d Φ F h n) (hM : 1 ≤ M) (hQ : ∀ dk h' n', World (k + 1) M (setD a k n) (setD d k dk) (setT Φ k tree0) F h' n' → Q (.loc n) L h' n' 0) :
  Wp (callV sg (callF sg (m + 4)) (.gl 68) [] [] ⟨L, h, n, 0⟩) Q E := by
 obtain ⟨A, cl, ql, G, R, tre, fo⟩ := X.ex
 refine c_tree (Φ := Φ) (t := k) m (by rw [← X.no k (Nat.le_refl _), setT_self]; exact R) (Nat.zero_le _) fun cl' ql' h' n' dk h1 h2 R' => hQ dk _ _ ?_
 have lt : ∀ {l o}, G l = some o → l < n := fun e => R.lt _ _ (R.old _ _ e)
 have ne : n ≠ dk := by omega
 have sd : ∀ {f : Nat → Nat} {y u : Nat}, u < k → setD f k y u = f u := fun hu => if_neg (by omega)
 have ss : ∀ {f : Nat → Nat} {y : Nat}, setD f k y k = y := if_pos rfl
 have eA : updA A k 0 (n + 1) k 0 = n + 1 := updA_same ..
 refine ⟨⟨_, _, _, _, R', fun u hu => ?_, fun l o e => ?_⟩, fun u v hu hv e => ?_, fun u hu => ?_⟩
 ·by_cases q : u = k
  ·subst q
   rw [setT_same, ss, ss]
   refine ⟨⟨_, ⟨(upd_ne _ _ ne).trans (upd_same ..), upd_same .., fun i => ?_, Nat.le_of_ble_eq_true rfl⟩, ⟨rfl, trivial⟩, hM⟩, wt0.more hM⟩
   show (if AV.int i = AV.int 0 then some (AV.loc (n + 1)) else none) = _
   by_cases q : i = 0
   ·subst q; rw [if_pos rfl, eA]; show _ = Option.map _ (setN emp 0 root0 0); rw [setN_same]; rfl
   ·rw [if_neg (by intro w; cases w; exact q rfl)]; show _ = Option.map _ (setN emp 0 root0 i); rw [setN_ne _ _ q]; rfl
  ·have hu' : u < k := by omega
   rw [setT_ne _ _ q, sd hu', sd hu']
   refine xo1_1 ((tre u hu').obj) fun as g1 => ?_
   refine xo1_1 ((tre u hu').dict) fun es g2 => ?_
   have l1 := lt g1
   have l2 := lt g2
   exact (tre u hu').keep (Nat.le_refl _) (by funext j; exact updA_ne _ _ fun z => q z.1) ((upd_ne _ _ (by omega)).trans (upd_ne _ _ (by omega))) ((upd_ne _ _ (by omega)).trans (upd_ne _ _ (by omega)))
 ·refine xo0_2 (fo _ _ e) fun e1 e2 => ?_
  have ll := lt e1
  refine ⟨(upd_ne _ _ (by omega)).trans ((upd_ne _ _ (by omega)).trans e1), fun u hu => ?_⟩
  by_cases q : u = k
  ·subst q; rw [ss, ss]; omega
  ·have hu' : u < k := by omega
   rw [sd hu', sd hu']; exact e2 u hu'
 ·have dl : ∀ {u}, u < k → d u < n := fun hu => by
   refine xo1_1 ((tre _ hu).dict) fun es g2 => ?_
   exact lt g2
  by_cases q : u = k <;> by_cases q' : v = k
  ·omega
  ·subst q
   rw [ss, sd (by omega)] at e
   have := dl (show v < u by omega)
   omega
  ·subst q'
   rw [ss, sd (by omega)] at e
   have := dl (show u < v by omega)
   omega
  ·rw [sd (by omega), sd (by omega)] at e
   exact X.inj _ _ (by omega) (by omega) e
 ·rw [setT_ne _ _ (by omega)]; exact X.no u (by omega)
end
end
section
open PySem
section
variable {P W : Tr} {Os Os' : Int → Tr} {gs : List Int} {g w : Int} {r : Nd}
theorem Sim.congr (S : Sim gs P W Os) (h : ∀ g ∈ gs, Os' g = Os g) : Sim gs P W Os' :=
 ⟨S.sub, S.z, S.be, fun g hg => by rw [h g hg]; exact S.gr g hg, S.dom, fun g hg => by rw [h g hg]; exact S.act g hg⟩
theorem Sim.grow (S : Sim gs P W Os) (hg : g = 3 ∨ g = 5 ∨ g = 7) (ng : g ∉ gs) (hW : ∀ i, i = g ∨ Dg g i → W i = none) (h0 : P 0 = some r) :
  Sim (gs ++ [g]) (putIn P 0 g w false) (putIn (setN (putIn W 0 g w false) g { nd0 w with par := some 0, act := false }) g (g + 6) 16 false) (setO Os g (putIn tree0 0 (g + 6) 16 false)) := by
 have g0 := Grp.n0 hg
 refine xo0_3 (putIn_at (w := w) h0 g0) fun p1 p2 p3 => ?_
 refine xo0_3 (putIn_at (w := w) (S.z.trans h0) g0) fun w1 w2 w3 => ?_
 generalize eW : setN (putIn W 0 g w false) g { nd0 w with par := some 0, act := false } = W2
 have eW := eW.symm
 have a1 : W2 g = some { nd0 w with par := some 0, act := false } := by rw [eW]; exact setN_same ..
 have a2 : ∀ j, j ≠ 0 → j ≠ g → W2 j = W j := fun j z1 z2 => by rw [eW, setN_ne _ _ z2]; exact w3 j z1 z2
 have a3 : W2 0 = putIn P 0 g w false 0 := by rw [eW, setN_ne _ _ g0.symm, w1, p1]
 have X : Emb g (Dg g) (w, 0, false, some 0) W2 tree0 W2 := by
  refine ⟨g0, fun i hi => ⟨hi.n0, hi.ng hg⟩, fun i hi => ?_, ⟨root0, _, setN_same .., a1, rfl, rfl, rfl, rfl⟩, fun i hi => ?_, fun _ _ _ => rfl⟩
  ·by_cases q : i = 0
   ·exact .inl q
   ·exact (hi (setN_ne _ _ q)).elim
  ·have : i ≠ 0 ∧ i ≠ g := ⟨hi.n0, hi.ng hg⟩
   rw [a2 i this.1 this.2, hW i (.inr hi)]
   show none = Option.map _ (setN emp 0 root0 i)
   rw [setN_ne _ _ this.1]; rfl
 have x0 : g + 6 ≠ 0 := (Dg.six hg).n0
 have d6 := Dg.six hg
 have n6 : tree0 (g + 6) = none := by show setN emp 0 root0 _ = _; rw [setN_ne _ _ x0]; rfl
 have m6 : W2 (g + 6) = none := (a2 _ x0 (d6.ng hg)).trans (hW _ (.inr d6))
 have Y := X.deed wt0 d6 (p := 0) (by show setN emp 0 root0 0 ≠ none; rw [setN_same]; nofun) (kind := 0) (w := 16) (ex := false) (fun w => by omega)
 unfold treeOf at Y
 rw [if_pos (show (0 : Int) < 3 by decide), if_pos n6, if_pos (show wok 16 by decide), if_pos (show (0 : Int) < 3 by decide), if_pos m6, if_pos (show wok 16 by decide), fi_0] at Y
 have o := Y.out
 refine xo0_3 (putIn_at (T := tree0) (w := 16) (setN_same emp 0 root0) x0) fun q1 q2 q3 => ?_
 have sub : ∀ g' ∈ gs ++ [g], g' = 3 ∨ g' = 5 ∨ g' = 7 := fun g' h => by
  rcases List.mem_append.mp h with h | h
  ·exact S.sub g' h
  ·rw [List.mem_singleton.mp h]; exact hg
 refine ⟨sub, (o 0 (fun q => Dg.n0 q rfl) g0.symm).trans a3, fun b hb => ?_, fun g' h => ?_, fun i hi => ?_, fun g' h => ?_⟩
 ·have : b ≠ 0 ∧ b ≠ g ∧ ¬ Dg g b := ⟨Bs.n0 hb, (Grp.nbe hg hb).symm, fun q => Dg.nbe q hb rfl⟩
  rw [o b this.2.2 this.2.1, a2 b this.1 this.2.1, p3 b this.1 this.2.1]
  exact S.be b hb
 ·by_cases q : g' = g
  ·subst q
   rw [show setO Os g' (putIn tree0 0 (g' + 6) 16 false) g' = putIn tree0 0 (g' + 6) 16 false from if_pos rfl]
   exact ⟨_, p2, rfl, ⟨rfl, rfl, rfl⟩, Y.same fun _ _ => rfl⟩
  ·have hg' : g' ∈ gs := (List.mem_append.mp h).resolve_right fun z => q (List.mem_singleton.mp z)
   refine xo1_4 (S.gr g' hg') fun t t1 t2 t3 Z => ?_
   have s' := S.sub g' hg'
   rw [show setO Os g (putIn tree0 0 (g + 6) 16 false) g' = Os g' from if_neg q]
   refine ⟨t, (p3 g' (Grp.n0 s') q).trans t1, t2, t3, Z.same fun j hj => ?_⟩
   have : j ≠ 0 ∧ j ≠ g ∧ ¬ Dg g j := ⟨In.n0 s' hj, In.ng hj hg q, In.apart hj s' hg q⟩
   rw [o j this.2.2 this.2.1, a2 j this.1 this.2.1]
 ·by_cases q : i = 0
  ·exact .inl q
  ·by_cases q2 : i = g
   ·exact .inr (.inl (by rw [q2]; exact List.mem_append_right _ (.head _)))
   ·rw [p3 i q q2] at hi
    rcases S.dom i hi with h | h | h
    ·exact .inl h
    ·exact .inr (.inl (List.mem_append_left _ h))
    ·exact .inr (.inr h)
 ·by_cases q : g' = g
  ·subst q
   rw [show setO Os g' (putIn tree0 0 (g' + 6) 16 false) g' = putIn tree0 0 (g' + 6) 16 false from if_pos rfl]
   exact ⟨_, q2, rfl⟩
  ·have hg' : g' ∈ gs := (List.mem_append.mp h).resolve_right fun z => q (List.mem_singleton.mp z)
   rw [show setO Os g (putIn tree0 0 (g + 6) 16 false) g' = Os g' from if_neg q]
   exact S.act g' hg'
end
section
variable {C : Nat → List AV → St → R AV} {E : Est} {k n : Nat} {h : Hp} {L : Lo} {l l' : Nat} {xs ys : List AV} {v : AV} {Q : Pst AV}
theorem t_ro {Q : Pst Bool} (e : h l = some (.ro xs)) (q : Q (!xs.isEmpty) L h n k) : Wp (truth (.loc l) ⟨L, h, n, k⟩) Q E := by
 show Wp (atObj ⟨L, h, n, k⟩ l _) Q E
 exact .atO e q
theorem i_ro {i : Int} {x : AV} (e : h l = some (.ro xs)) (h0 : 0 ≤ i) (hx : xs[i.toNat]? = some x) (q : Q x L h n k) : Wp (getI sg (.loc l) (.int i) ⟨L, h, n, k⟩) Q E := by
 show Wp (atObj ⟨L, h, n, k⟩ l _) Q E
 refine .atO e ?_
 show Wp (itemR xs _ _) Q E
 unfold itemR
 rw [if_pos h0, hx]
 exact q
theorem o_cat (e : h l = some (.list xs)) (e' : h l' = some (.list ys)) (hl : xs.length + ys.length ≤ 1000) (q : Q (.loc n) L (upd h n (.list (xs ++ ys))) (n + 1) k) : Wp (bino sg .add (.loc l) (.loc l') ⟨L, h, n, k⟩) Q E := by
 show Wp (atObj ⟨L, h, n, k⟩ l _) Q E
 refine .atO e ?_
 show Wp (atObj ⟨L, h, n, k⟩ l' _) Q E
 exact .atO e' (.ifp (r := alloc _ _) hl q)
theorem o_rep {x : AV} {j : Int} (e : h l = some (.list [x])) (hj : 0 ≤ j ∧ j ≤ 100) (q : Q (.loc n) L (upd h n (.list (List.replicate j.toNat [x]).flatten)) (n + 1) k) : Wp (bino sg .mul (.loc l) (.int j) ⟨L, h, n, k⟩) Q E := by
 show Wp (atObj ⟨L, h, n, k⟩ l _) Q E
 exact .atO e (.ifp (r := alloc _ _) ⟨rfl, hj⟩ q)
theorem bi_abs {x : Int} (q : Q (.int (if x < 0 then -x else x)) L h n k) : Wp (callV sg C (.gl 116) [.int x] [] ⟨L, h, n, k⟩) Q E := q
theorem it_tup (e : h l = some (.tup xs)) : iterOf (.loc l) ⟨L, h, n, k⟩ = some (.tup l) := by
 show (match h l with | some (.list _) => some (It.list l) | some (.tup _) => some (.tup l) | some (.rng n) => some (.rng n) | _ => none) = _
 rw [e]
theorem at_tup {j : Nat} (e : h l = some (.tup xs)) : itemAt (.tup l) j ⟨L, h, n, k⟩ = some xs[j]? := by
 show (match h l with | some (.tup xs) => some xs[j]? | _ => none) = _
 rw [e]
noncomputable def Told (v : AV) : Prop := v = .none ∨ ∃ i, v = .str i
theorem told_told (T : Tr) (kind x w : Int) : Told (toldOf T kind x w) := by
 unfold toldOf
 split
 ·split
  ·split
   ·exact .inl rfl
   ·exact .inr ⟨_, rfl⟩
  ·exact .inr ⟨_, rfl⟩
 ·split
  ·exact .inr ⟨_, rfl⟩
  ·split
   ·split
    ·exact .inl rfl
    ·exact .inr ⟨_, rfl⟩
   ·exact .inl rfl
theorem k_neT {Q : Pst Bool} (hv : Told v) (q : Q false L h n k) : Wp (cmpv sg C .ne v v ⟨L, h, n, k⟩) Q E := by
 rcases hv with rfl | ⟨i, rfl⟩
 ·exact q
 ·show Q (!decide (i = i)) L h n k
  rw [decide_eq_true rfl]; exact q
theorem k_isT {Q : Pst Bool} (hv : Told v) (q : Q (decide (v = .none)) L h n k) : Wp (cmpv sg C .is v .none ⟨L, h, n, k⟩) Q E := by
 rcases hv with rfl | ⟨i, rfl⟩
 ·exact q
 ·exact q
theorem rm_int {x : Int} : ∀ (rest pre : List Int) (fuel : Nat), rest.length < fuel → h l = some (.list ((pre ++ rest).map .int)) → x ∈ rest → Q .none L (upd h l (.list ((pre ++ rest.erase x).map .int))) n k → Wp (removeAt sg C l (.int x) fuel pre.length ⟨L, h, n, k⟩) Q E := by
 intro rest
 induction rest with
 | nil => intro _ _ _ _ hx; exact absurd hx nofun
 | cons y r ih =>
  intro pre fuel hf e hx q
  obtain ⟨f, rfl⟩ : ∃ f, fuel = f + 1 := ⟨fuel - 1, by simp at hf; omega⟩
  show Wp (atObj ⟨L, h, n, k⟩ l _) Q E
  refine .atO e ?_
  have at' : ((pre ++ y :: r).map AV.int)[pre.length]? = some (.int y) := by simp
  show Wp (match ((pre ++ y :: r).map AV.int)[pre.length]? with | some y => (eqIt sg C y (.int x) ⟨L, h, n, k⟩).bnd fun t s => if t then cutAt l pre.length s else removeAt sg C l _ f (pre.length + 1) s | none => .bad) Q E
  rw [at']
  show Wp (if decide (y = x) = true then cutAt l pre.length _ else removeAt sg C l _ f (pre.length + 1) _) Q E
  by_cases z : y = x
  ·rw [if_pos (decide_eq_true z)]
   subst z
   have : ((pre ++ y :: r).map AV.int).eraseIdx pre.length = (pre ++ (y :: r).erase y).map .int := by
    rw [List.erase_cons_head, List.map_append, List.map_append, List.map_cons]
    have := erase_mid (pre.map AV.int) (AV.int y) (r.map AV.int)
    rwa [List.length_map] at this
   rw [← this] at q
   exact .atO e q
  ·rw [if_neg (by simpa using z)]
   have := ih (pre ++ [y]) f (by simp at hf ⊢; omega) (by rw [e]; simp) ((List.mem_cons.mp hx).resolve_left fun w => z w.symm) (by
    rw [List.erase_cons_tail (by simpa using z)] at q
    simpa using q)
   simpa using this
end
end
section
open PySem PySem.W PyProof.Rows
noncomputable def tg (g : Int) : Nat := if g = 3 then 2 else if g = 5 then 3 else 4
structure LA (a : Nat → Nat) (lo lh : Nat) (L : Lo) : Prop where
 w : get? L 117 = some (.loc (a 0))
 t : get? L 118 = some (.loc (a 1))
 o : get? L 119 = some (.loc lo)
 h : get? L 120 = some (.loc lh)
structure Stay (gs : List Int) (M : Nat) (ns : List Int) (it : Nat) (io : AO) (a d : Nat → Nat) (Φ : Fo) (F : Hp) (lo lh : Nat) (ll : Int → Nat) (hr : Int → List Int) (h : Hp) (n : Nat) : Prop where
 wd : World (2 + gs.length) M a d Φ F h n
 sim : Sim gs (Φ 1) (Φ 0) fun g => Φ (tg g)
 ro : F 0 = some (.ro (ns.map .int))
 own : F lo = some (.dict (gs.map fun g => (.int g, .loc (a (tg g)))))
 here : F lh = some (.dict (gs.map fun g => (.int g, .loc (ll g))))
 ne : lo ≠ lh
 iter : F it = some io
 li : ∀ g ∈ gs, F (ll g) = some (.list ((hr g).map .int)) ∧ ll g ≠ it ∧ (hr g).Nodup ∧ ∀ i, i ∈ hr g ↔ i = g ∨ (i ≠ 0 ∧ Φ (tg g) i ≠ none)
 inj : ∀ g ∈ gs, ∀ g' ∈ gs, ll g = ll g' → g = g'
section
variable {C : Nat → List AV → St → R AV} {E : Est} {k n : Nat} {h : Hp} {L : Lo} {M : Nat} {a d : Nat → Nat} {F : Hp} {Φ : Fo} {t : Nat} {ns gs : List Int} {it lo lh : Nat} {io : AO} {g start w : Int} {ll : Int → Nat} {hr : Int → List Int} {Q : Pst AV}
theorem LA.put (x : LA a lo lh L) {j : Nat} (v : AV) (hj : j ≠ 117 ∧ j ≠ 118 ∧ j ≠ 119 ∧ j ≠ 120) : LA a lo lh (put L j v) :=
 ⟨(get_put_ne _ _ hj.1.symm).trans x.w, (get_put_ne _ _ hj.2.1.symm).trans x.t, (get_put_ne _ _ hj.2.2.1.symm).trans x.o, (get_put_ne _ _ hj.2.2.2.symm).trans x.h⟩
theorem dget_map {f : Int → AV} {g : Int} : ∀ {gs : List Int}, g ∈ gs → dget? (gs.map fun g => (AV.int g, f g)) (.int g) = some (f g) := fun {gs} => by
 induction gs with
 | nil => intro h; exact absurd h nofun
 | cons x r ih =>
  intro h
  show (if AV.int g = AV.int x then some (f x) else dget? (r.map fun g => (AV.int g, f g)) (.int g)) = _
  by_cases q : g = x
  ·rw [q, if_pos rfl]
  ·rw [if_neg (by intro w; cases w; exact q rfl)]
   exact ih ((List.mem_cons.mp h).resolve_left q)
theorem dget_map0 {f : Int → AV} {g : Int} : ∀ {gs : List Int}, g ∉ gs → dget? (gs.map fun g => (AV.int g, f g)) (.int g) = none := fun {gs} => by
 induction gs with
 | nil => intro _; rfl
 | cons x r ih =>
  intro h
  rw [List.mem_cons, not_or] at h
  show (if AV.int g = AV.int x then some (f x) else dget? (r.map fun g => (AV.int g, f g)) (.int g)) = _
  rw [if_neg (by intro w; cases w; exact h.1 rfl)]
  exact ih h.2
theorem dput_map {f : Int → AV} {g : Int} {v : AV} : ∀ {gs : List Int}, g ∉ gs → dput (gs.map fun g => (AV.int g, f g)) (.int g) v = (gs.map fun g => (AV.int g, f g)) ++ [(.int g, v)] := fun {gs} => by
 induction gs with
 | nil => intro _; rfl
 | cons x r ih =>
  intro h
  rw [List.mem_cons, not_or] at h
  show (if AV.int g = AV.int x then _ else _) = _
  rw [if_neg (by intro w; cases w; exact h.1 rfl)]
  rw [ih h.2]; rfl
inductive Setup (gs : List Int) (M : Nat) (ns : List Int) (it : Nat) (io : AO) (start : Int) (L : Lo) (h : Hp) (n : Nat) : Prop
 | intro (l113 : get? L 113 = some (.loc 0)) (l115 : get? L 115 = some (.int start)) (a d : Nat → Nat) (Φ : Fo) (F : Hp) (lo lh : Nat) (ll : Int → Nat) (hr : Int → List Int) (la : LA a lo lh L) (I : Stay gs M ns it io a d Φ F lo lh ll hr h n) (dm0 : ∀ i, Φ 0 i ≠ none → i = 0 ∨ ∃ g ∈ gs, i = g ∨ i = g + 6) (dm1 : ∀ i, Φ 1 i ≠ none → i = 0 ∨ i ∈ gs)
theorem setup (hg : g = 3 ∨ g = 5 ∨ g = 7) (ht : tg g = 2 + gs.length) (hl3 : gs.length ≤ 3) (ng : g ∉ gs) (hlt : ∀ g' ∈ gs, tg g' < 2 + gs.length) (hio : ∀ es, io ≠ .dict es) (hM : 1 ≤ M ∧ M < 300) (hl : get? L 121 = some (.int g)) (I : Setup gs M ns it io start L h n) :
  Wp (execs sg (callF sg 300) (b30.at 5).bdy ⟨L, h, n, 0⟩) (fun f L' h' n' k' => f = .next ∧ k' = 0 ∧ Setup (gs ++ [g]) (M + 4) ns it io start L' h' n') E := by
 obtain ⟨l113, l115, a, d, Φ, F, lo, lh, ll, hr, la, I, dm0, dm1⟩ := I
 have g0 := Grp.rng hg
 have wr : 1 ≤ 1 + Int.fmod (Int.fdiv start g) 256 ∧ 1 + Int.fmod (Int.fdiv start g) 256 ≤ 256 := by
  have := Int.fmod_nonneg_of_pos (Int.fdiv start g) (show (0 : Int) < 256 by decide)
  have := Int.fmod_lt_of_pos (Int.fdiv start g) (show (0 : Int) < 256 by decide)
  omega
 have l117 := la.w
 have l118 := la.t
 have l119 := la.o
 have l120 := la.h
 have P0 := I.wd.wt (show 1 < 2 + gs.length by omega)
 have T0 := I.wd.wt (show 0 < 2 + gs.length by omega)
 delta b30
 dsimp only [Ss.at, S.bdy]
 repeat walk_at "e"
 refine o_div ⟨by omega, by omega⟩ ?_
 repeat walk_at "e"
 refine o_mod (by decide) ?_
 generalize ew : 1 + Int.fmod (Int.fdiv start g) 256 = w at wr
 have ew := ew.symm
 refine o_add ?_
 rw [← ew]
 refine go_next ?_
 have m22 := get_put L 22 (.int w)
 have m113 := (get_put_ne L (.int w) (show 113 ≠ 22 by decide)).trans l113
 have m115 := (get_put_ne L (.int w) (show 115 ≠ 22 by decide)).trans l115
 have m121 := (get_put_ne L (.int w) (show 121 ≠ 22 by decide)).trans hl
 have la1 := la.put (j := 22) (.int w) (by decide)
 clear l117 l118 l119 l120 l113 l115 hl la
 generalize put L 22 (.int w) = L1 at m22 m113 m115 m121 la1 ⊢
 have l117 := la1.w
 have l118 := la1.t
 have l119 := la1.o
 have l120 := la1.h
 obtain ⟨k, ek⟩ : ∃ k, k = 2 + gs.length := ⟨_, rfl⟩
 have X0 := I.wd
 rw [← ek] at X0 hlt ht
 have k2 : 2 ≤ k := by omega
 have n00 : Φ 0 0 ≠ none := by obtain ⟨r, e, _⟩ := T0.root; rw [e]; nofun
 refine xo1_2 P0.root fun r1 er1 _ => ?_
 have n10 : Φ 1 0 ≠ none := by rw [er1]; nofun
 have gP : Φ 1 g = none := Classical.byContradiction fun w => by
  rcases dm1 g w with h | h
  ·omega
  ·exact ng h
 have gW : ∀ i, i = g ∨ Dg g i → Φ 0 i = none := fun i hi => Classical.byContradiction fun w => by
  rcases dm0 i w with h | ⟨g', h1, h2⟩
  ·exact hi.elim (fun e => Grp.n0 hg (e.symm.trans h)) fun e => e.n0 h
  ·exact In.far hi hg (I.sim.sub g' h1) (fun z => ng (z ▸ h1)) h2
 repeat walk_at "e"
 refine ⟨_, X0.meth (by omega) rfl (fun _ _ _ _ => rfl), ?_⟩
 repeat walk_at "e"
 refine c_fn rfl rfl (X0.insert (p := 0) 293 (by omega) (by omega) g0 (.inl rfl) n00 (gW g (.inl rfl)) wr fun h1 n1 X1 => ⟨trivial, ?_⟩)
 refine go_next ?_
 refine xo0_3 (putIn_at (w := w) (T := Φ 0) (b := g) (Option.some_get (Option.isSome_iff_ne_none.mpr n00)).symm (by omega)) fun i0 i1 i2 => ?_
 have s1 : setT Φ 0 (putIn (Φ 0) 0 g w false) 0 = putIn (Φ 0) 0 g w false := setT_same ..
 repeat walk_at "e"
 refine ⟨_, X1.meth (by omega) rfl (fun _ _ _ _ => rfl), ?_⟩
 repeat walk_at "e"
 refine c_fn rfl rfl (X1.block 299 (by omega) g0 (nd := { nd0 w with par := some 0 }) (by rw [s1]; exact i1) fun h2 X2 => ⟨trivial, ?_⟩)
 rw [s1, setT_setT] at X2
 obtain ⟨W2, eW2⟩ : ∃ W2, W2 = setN (putIn (Φ 0) 0 g w false) g { nd0 w with par := some 0, act := false } := ⟨_, rfl⟩
 replace X2 : World k (M + 1) a d (setT Φ 0 W2) F h2 n1 := by rw [eW2]; exact X2
 have w2g : W2 g ≠ none := by rw [eW2, setN_same]; nofun
 have w26 : W2 (g + 6) = none := by rw [eW2, setN_ne _ _ ((Dg.six hg).ng hg), i2 _ (Dg.six hg).n0 ((Dg.six hg).ng hg)]; exact gW _ (.inr (Dg.six hg))
 refine go_next ?_
 repeat walk_at "e"
 refine ⟨_, X2.meth (by omega) rfl (fun _ _ _ _ => rfl), ?_⟩
 repeat walk_at "e"
 refine c_fn rfl rfl (X2.insert (p := 0) 293 (by omega) (by omega) g0 (.inl rfl) (by rw [setT_ne _ _ (by decide)]; exact n10) (by rw [setT_ne _ _ (by decide)]; exact gP) wr fun h3 n3 X3 => ⟨trivial, ?_⟩)
 rw [setT_ne _ _ (show 1 ≠ 0 by decide)] at X3
 refine go_next ?_
 generalize eP1 : putIn (Φ 1) 0 g w false = P1 at X3
 have eP1 := eP1.symm
 repeat walk_at "e"
 refine X3.tree 296 (by omega) fun dk h4 n4 X4 => ?_
 repeat walk_at "e"
 refine j_dict (X4.get I.own) (by rw [List.length_map]; omega) ?_
 rw [dput_map ng]
 have X5 := X4.put I.own rfl (.dict ((gs.map fun g => (AV.int g, AV.loc (a (tg g)))) ++ [(.int g, .loc n3)]))
 generalize upd h4 lo (.dict ((gs.map fun g => (AV.int g, AV.loc (a (tg g)))) ++ [(.int g, .loc n3)])) = h5 at X5 ⊢
 obtain ⟨a', ea⟩ : ∃ a', a' = setD a k n3 := ⟨_, rfl⟩
 obtain ⟨d', ed⟩ : ∃ d', d' = setD d k dk := ⟨_, rfl⟩
 rw [← ea, ← ed] at X5
 have ak : a' k = n3 := by rw [ea]; exact if_pos rfl
 have al : ∀ u, u < k → a' u = a u := fun u hu => by rw [ea]; exact if_neg (by omega)
 generalize eob : ((gs.map fun g => (AV.int g, AV.loc (a (tg g)))) ++ [(.int g, .loc n3)]) = ob at X5
 have eob := eob.symm
 have eo : ob = (gs ++ [g]).map fun g => (AV.int g, AV.loc (a' (tg g))) := by
  rw [eob, List.map_append]
  congr 1
  ·exact List.map_congr_left fun x hx => by rw [al _ (hlt x hx)]
  ·show _ = [(AV.int g, AV.loc (a' (tg g)))]; rw [ht, ak]
 have go : dget? ob (.int g) = some (.loc n3) := by
  rw [eo, dget_map (List.mem_append_right _ (.head _)), ht, ak]
 rw [← al 0 (by omega)] at l117
 have f0 : setT (setT (setT Φ 0 W2) 1 P1) k tree0 0 = W2 := by rw [setT_ne _ _ (by omega), setT_ne _ _ (by decide), setT_same]
 repeat walk_at "e"
 refine ⟨_, X5.meth (t := 0) (by omega) rfl (fun _ _ _ _ => rfl), ?_⟩
 repeat walk_at "e"
 refine c_fn rfl rfl (X5.insert (p := g) 293 (by omega) (by omega) (Dg.six hg).rng (.inl rfl) (by rw [f0]; exact w2g) (by rw [f0]; exact w26) (by decide) fun h6 n6 X6 => ⟨trivial, ?_⟩)
 rw [f0] at X6
 generalize eW3 : putIn W2 g (g + 6) 16 false = W3 at X6
 have eW3 := eW3.symm
 refine go_next ?_
 have fk : setT (setT (setT (setT Φ 0 W2) 1 P1) k tree0) 0 W3 k = tree0 := by rw [setT_ne _ _ (by omega), setT_same]
 repeat walk_at "e"
 refine i_dict (X6.get (upd_same ..)) go ?_
 refine ⟨_, by rw [← ak]; exact X6.meth (t := k) (by omega) rfl (fun _ _ _ _ => rfl), ?_⟩
 repeat walk_at "e"
 rw [← ak]
 refine c_fn rfl rfl (X6.insert (p := 0) 293 (by omega) (by omega) (Dg.six hg).rng (.inr ⟨rfl, rfl⟩) (by rw [fk]; nofun) (by rw [fk]; exact (setN_ne _ _ (by omega)).trans rfl) (by decide) fun h7 n7 X7 => ⟨trivial, ?_⟩)
 rw [fk] at X7
 generalize eO1 : putIn tree0 0 (g + 6) 16 false = O1 at X7
 have eO1 := eO1.symm
 refine go_next ?_
 repeat walk_at "e"
 refine ⟨Nat.le_of_ble_eq_true rfl, ?_⟩
 have X8 := X7.new (.list [.int g, .int (g + 6)])
 have lhn : lh ≠ n7 := by have := X7.lt (l := lh) ((upd_ne _ _ I.ne.symm).trans I.here); omega
 have eh : upd (upd F lo (.dict ob)) n7 (.list [.int g, .int (g + 6)]) lh = _ := (upd_ne _ _ lhn).trans ((upd_ne _ _ I.ne.symm).trans I.here)
 repeat walk_at "e"
 refine j_dict (X8.get eh) (by rw [List.length_map]; omega) ?_
 rw [dput_map ng]
 have X9 := X8.put eh rfl (.dict ((gs.map fun g => (AV.int g, AV.loc (ll g))) ++ [(.int g, .loc n7)]))
 repeat walk_at "e"
 have tg2 : ∀ x, 2 ≤ tg x := fun x => by
  unfold tg; split
  ·exact Nat.le_refl _
  ·split <;> decide
 have z0 : setT (setT (setT (setT (setT Φ 0 W2) 1 P1) k tree0) 0 W3) k O1 0 = W3 := by rw [setT_ne _ _ (by omega), setT_same]
 have z1 : setT (setT (setT (setT (setT Φ 0 W2) 1 P1) k tree0) 0 W3) k O1 1 = P1 := by rw [setT_ne _ _ (by omega), setT_ne _ _ (by decide), setT_ne _ _ (by omega), setT_same]
 have zk : setT (setT (setT (setT (setT Φ 0 W2) 1 P1) k tree0) 0 W3) k O1 k = O1 := setT_same ..
 have zo : ∀ u, 2 ≤ u → u ≠ k → setT (setT (setT (setT (setT Φ 0 W2) 1 P1) k tree0) 0 W3) k O1 u = Φ u := fun u h1 h2 => by
  rw [setT_ne _ _ h2, setT_ne _ _ (by omega), setT_ne _ _ h2, setT_ne _ _ (by omega), setT_ne _ _ (by omega)]
 generalize setT (setT (setT (setT (setT Φ 0 W2) 1 P1) k tree0) 0 W3) k O1 = Φ' at z0 z1 zk zo X9
 have lt7 : ∀ l o, F l = some o → l < n7 := fun l o e => by
  by_cases q : l = lo
  ·subst q; exact X7.lt (upd_same ..)
  ·exact X7.lt ((upd_ne _ _ q).trans e)
 have keep : ∀ l o, F l = some o → (∀ es, o ≠ .dict es) → upd (upd (upd F lo (.dict ob)) n7 (.list [.int g, .int (g + 6)])) lh (.dict ((gs.map fun g => (AV.int g, AV.loc (ll g))) ++ [(.int g, .loc n7)])) l = some o := fun l o e nd => by
  have := lt7 l o e
  rw [upd_ne _ _ fun q => by rw [q, I.here] at e; cases e; exact nd _ rfl, upd_ne _ _ (by omega), upd_ne _ _ fun q => by rw [q, I.own] at e; cases e; exact nd _ rfl]
  exact e
 have F9o : upd (upd (upd F lo (.dict ob)) n7 (.list [.int g, .int (g + 6)])) lh (.dict ((gs.map fun g => (AV.int g, AV.loc (ll g))) ++ [(.int g, .loc n7)])) lo = some (.dict ob) := by
  have := lt7 _ _ I.own
  rw [upd_ne _ _ I.ne, upd_ne _ _ (by omega)]; exact upd_same ..
 have F9h : upd (upd (upd F lo (.dict ob)) n7 (.list [.int g, .int (g + 6)])) lh (.dict ((gs.map fun g => (AV.int g, AV.loc (ll g))) ++ [(.int g, .loc n7)])) lh = some (.dict ((gs.map fun g => (AV.int g, AV.loc (ll g))) ++ [(.int g, .loc n7)])) := upd_same ..
 have F9n : upd (upd (upd F lo (.dict ob)) n7 (.list [.int g, .int (g + 6)])) lh (.dict ((gs.map fun g => (AV.int g, AV.loc (ll g))) ++ [(.int g, .loc n7)])) n7 = some (.list [.int g, .int (g + 6)]) := by
  rw [upd_ne _ _ lhn.symm]; exact upd_same ..
 generalize upd (upd (upd F lo (.dict ob)) n7 (.list [.int g, .int (g + 6)])) lh (.dict ((gs.map fun g => (AV.int g, AV.loc (ll g))) ++ [(.int g, .loc n7)])) = F' at keep F9o F9h F9n X9
 have SS := I.sim.grow (w := w) hg ng gW er1
 rw [← eW2, ← eP1, ← eW3, ← eO1] at SS
 have gg : ∀ g' ∈ gs ++ [g], g' ≠ g → g' ∈ gs := fun g' h q => (List.mem_append.mp h).resolve_right fun z => q (List.mem_singleton.mp z)
 have llo : ∀ {f : Int → Nat} {x : Int}, x ≠ g → (if x = g then n7 else f x) = f x := fun h => if_neg h
 refine ⟨rfl, rfl, m113, m115, a', d', Φ', F', lo, lh, fun x => if x = g then n7 else ll x, fun x => if x = g then [g, g + 6] else hr x, ⟨l117, by rw [al 1 (by omega)]; exact l118, l119, l120⟩, ⟨?_, ?_, keep _ _ I.ro nofun, ?_, ?_, I.ne, keep _ _ I.iter hio, fun g' h => ?_, fun g1 h1 g2 h2 e => ?_⟩, fun i hi => ?_, fun i hi => ?_⟩
 ·rw [List.length_append, show 2 + (gs.length + [g].length) = k + 1 by rw [ek]; rfl]
  exact X9
 ·rw [z0, z1]
  refine SS.congr fun g' h => ?_
  by_cases q : g' = g
  ·rw [q, ht, zk]; exact (if_pos rfl).symm
  ·rw [zo _ (tg2 _) (by have := hlt g' (gg g' h q); omega)]; exact (if_neg q).symm
 ·rw [F9o, eo]
 ·rw [F9h, List.map_append]
  congr 3
  ·exact List.map_congr_left fun x hx => by rw [if_neg (show ¬ x = g from fun z => ng (z ▸ hx))]
  ·show _ = [(AV.int g, AV.loc (if g = g then n7 else ll g))]; rw [if_pos rfl]
 ·by_cases q : g' = g
  ·subst q
   rw [if_pos rfl, if_pos rfl, ht, zk]
   have l1 := lt7 _ _ I.iter
   refine ⟨F9n, by omega, by simp; omega, fun i => ?_⟩
   have : O1 i ≠ none ↔ i = g' + 6 ∨ tree0 i ≠ none := by
    rw [eO1, ne_eq, putIn_none]
    by_cases z : i = g' + 6
    ·rw [z, setN_same]; simp
    ·rw [setN_ne _ _ z]; simp [z]
   rw [this]
   have t0 : i ≠ 0 → tree0 i = none := fun z => (setN_ne _ _ z).trans rfl
   constructor
   ·intro h
    rcases List.mem_cons.mp h with h | h
    ·exact .inl h
    ·have := List.mem_singleton.mp h; exact .inr ⟨by omega, .inl this⟩
   ·rintro (h | ⟨h1, h2 | h2⟩)
    ·rw [h]; exact .head _
    ·rw [h2]; exact .tail _ (.head _)
    ·exact (h2 (t0 h1)).elim
  ·have hg' := gg g' h q
   refine xo0_4 (I.li g' hg') fun c1 c2 c3 c4 => ?_
   rw [if_neg q, if_neg q, zo _ (tg2 _) (by have := hlt g' hg'; omega)]
   exact ⟨keep _ _ c1 nofun, c2, c3, c4⟩
 ·by_cases q1 : g1 = g <;> by_cases q2 : g2 = g
  ·rw [q1, q2]
  ·rw [if_pos q1, if_neg q2] at e
   have := lt7 _ _ (I.li g2 (gg g2 h2 q2)).1
   omega
  ·rw [if_neg q1, if_pos q2] at e
   have := lt7 _ _ (I.li g1 (gg g1 h1 q1)).1
   omega
  ·rw [if_neg q1, if_neg q2] at e
   exact I.inj g1 (gg g1 h1 q1) g2 (gg g2 h2 q2) e
 ·rw [z0, eW3, ne_eq, putIn_none] at hi
  by_cases z : i = g + 6
  ·exact .inr ⟨g, List.mem_append_right _ (.head _), .inr z⟩
  ·rw [setN_ne _ _ z, eW2] at hi
   by_cases z2 : i = g
   ·exact .inr ⟨g, List.mem_append_right _ (.head _), .inl z2⟩
   ·rw [setN_ne _ _ z2, putIn_none, setN_ne _ _ z2] at hi
    rcases dm0 i hi with h | ⟨g', h1, h2⟩
    ·exact .inl h
    ·exact .inr ⟨g', List.mem_append_left _ h1, h2⟩
 ·rw [z1, eP1, ne_eq, putIn_none] at hi
  by_cases z : i = g
  ·exact .inr (by rw [z]; exact List.mem_append_right _ (.head _))
  ·rw [setN_ne _ _ z] at hi
   rcases dm1 i hi with h | h
   ·exact .inl h
   ·exact .inr (List.mem_append_left _ h)
end
end
section
open PySem PySem.W PyProof.Rows
abbrev gs3 : List Int := [3, 5, 7]
theorem gs3_mem {g : Int} : g ∈ gs3 ↔ g = 3 ∨ g = 5 ∨ g = 7 := by simp [gs3]
theorem tg_lt (g : Int) : 2 ≤ tg g ∧ tg g < 5 := by
 unfold tg; split
 ·exact ⟨Nat.le_refl _, by decide⟩
 ·split <;> exact ⟨by decide, by decide⟩
theorem tg_inj {g g' : Int} (h : g ∈ gs3) (h' : g' ∈ gs3) (e : tg g = tg g') : g = g' := by
 rcases gs3_mem.mp h with rfl | rfl | rfl <;> rcases gs3_mem.mp h' with rfl | rfl | rfl <;> first | rfl | (exact absurd e (by decide))
section
variable {T : Tr} {M : Nat} {x g p : Int} {nd : Nd}
theorem WD.noSB0 (W : WT M T) : ¬ SB T x 0 := fun s => by
 cases s with
 | kid a b => exact (W.down _ _ a _ b).1 rfl
 | more _ a b => exact (W.down _ _ a _ b).1 rfl
theorem WD.noSBg (W : WT M T) (h : T g = some nd) (hp : nd.par = some 0) (x0 : x ≠ 0) : ¬ SB T x g := fun s => by
 cases s with
 | kid a b =>
  refine xm_aaeaa (W.down _ _ a _ b) fun _ _ nd' h1 h2 => ?_
  rw [h] at h1; obtain rfl := Option.some.inj h1
  rw [hp] at h2; obtain rfl := Option.some.inj h2
  exact x0 rfl
 | more s a b =>
  refine xm_aaeaa (W.down _ _ a _ b) fun _ _ nd' h1 h2 => ?_
  rw [h] at h1; obtain rfl := Option.some.inj h1
  rw [hp] at h2; obtain rfl := Option.some.inj h2
  exact W.noSB0 s
theorem climb_g (h : T g = some nd) (hp : nd.par = some 0) (h0 : T 0 ≠ none) (x0 : x ≠ 0) : climb T 100 g x = some false := by
 unfold climb
 rw [h]
 dsimp only
 rw [hp]
 dsimp only
 rw [if_neg h0, if_neg x0.symm, if_pos rfl]
end
section
variable {C : Nat → List AV → St → R AV} {E : Est} {k n : Nat} {h : Hp} {L : Lo} {M : Nat} {a d : Nat → Nat} {F : Hp} {Φ : Fo} {t : Nat} {ns : List Int} {Φ' : Fo} {h' : Hp} {n' iter lo lh N : Nat} {io : AO} {xs : List Int} {g x w num : Int} {ll : Int → Nat} {hr : Int → List Int} {Q : Pst AV}
theorem Stay.re (I : Stay gs3 M ns iter io a d Φ F lo lh ll hr h n) (X : World 5 N a d Φ' F h' n') (S : Sim gs3 (Φ' 1) (Φ' 0) fun g => Φ' (tg g)) (e : ∀ g ∈ gs3, ∀ i, Φ' (tg g) i = none ↔ Φ (tg g) i = none) : Stay gs3 N ns iter io a d Φ' F lo lh ll hr h' n' :=
 ⟨X, S, I.ro, I.own, I.here, I.ne, I.iter, fun g hg => by
  refine xo0_4 (I.li g hg) fun c1 c2 c3 c4 => ?_
  refine ⟨c1, c2, c3, fun i => (c4 i).trans ?_⟩
  rw [ne_eq, ne_eq, ne_eq, e g hg i], I.inj⟩
theorem Stay.list (I : Stay gs3 M ns iter io a d Φ F lo lh ll hr h n) (hg : g ∈ gs3) (X : World 5 N a d Φ' (upd F (ll g) (.list (xs.map .int))) h' n') (S : Sim gs3 (Φ' 1) (Φ' 0) fun g => Φ' (tg g)) (hn : xs.Nodup) (hi : ∀ i, i ∈ xs ↔ i = g ∨ (i ≠ 0 ∧ Φ' (tg g) i ≠ none))
  (e : ∀ g' ∈ gs3, g' ≠ g → Φ' (tg g') = Φ (tg g')) : Stay gs3 N ns iter io a d Φ' (upd F (ll g) (.list (xs.map .int))) lo lh ll (fun j => if j = g then xs else hr j) h' n' := by
 refine xo0_3 (I.li g hg) fun z1 z2 _ => ?_
 have ne : ∀ {l o}, F l = some o → (∀ ys, o ≠ .list ys) → upd F (ll g) (.list (xs.map .int)) l = some o := fun h q => by
  rw [upd_ne]
  ·exact h
  ·rintro rfl; rw [z1] at h; cases h; exact q _ rfl
 refine ⟨X, S, ne I.ro nofun, ne I.own nofun, ne I.here nofun, I.ne, (upd_ne _ _ z2.symm).trans I.iter, fun g' hg' => ?_, I.inj⟩
 refine xo0_4 (I.li g' hg') fun c1 c2 c3 c4 => ?_
 by_cases q : g' = g
 ·subst q; rw [if_pos rfl]; exact ⟨upd_same .., c2, hn, hi⟩
 ·rw [if_neg q, e g' hg' q]
  exact ⟨(upd_ne _ _ fun z => q (I.inj _ hg' _ hg z)).trans c1, c2, c3, c4⟩
inductive Main (M : Nat) (ns : List Int) (iter : Nat) (io : AO) (L : Lo) (h : Hp) (n : Nat) : Prop
 | intro (a d : Nat → Nat) (Φ : Fo) (F : Hp) (lo lh : Nat) (ll : Int → Nat) (hr : Int → List Int) (la : LA a lo lh L) (I : Stay gs3 M ns iter io a d Φ F lo lh ll hr h n)
theorem turns (hM : M < 280) (I : Main M ns iter io L h n) :
  Wp (execs sg (callF sg 300) ((b30.at 6).bdy.at 7).bdy ⟨L, h, n, 0⟩) (fun f L' h' n' k' => f = .next ∧ k' = 0 ∧ Main M ns iter io L' h' n') E := by
 delta b30
 dsimp only [Ss.at, S.bdy]
 refine xs_cons (x_for ?_)
 repeat walk_at "e"
 refine bi_range (by decide) ?_
 refine ⟨_, it_rng (upd_same ..), ?_⟩
 refine forN_wp (xs := (List.range 2).map fun x : Nat => AV.int x) (fun j L h n k' => k' = 0 ∧ Main M ns iter io L h n)
  (fun j L h n k' w => ⟨at_rng, by rw [w.1]; exact Nat.zero_le _⟩) (fun j v L h n k' hv w => ?_) (fun L h n k' w => ?_) 100000 0 (by simp) (Nat.zero_le _) ⟨rfl, ?_⟩
 ·obtain ⟨rfl, a, d, Φ, F, lo, lh, ll, hr, la, I⟩ := w
  refine t_nm ?_
  have la1 := la.put (j := 124) v (by decide)
  generalize put L 124 v = L1 at la1 ⊢
  have l117 := la1.w
  have l118 := la1.t
  have l119 := la1.o
  have X0 : World 5 M a d Φ F h n := I.wd
  refine xo1_2 (I.sim.turn (d := 290) (M := M) (by omega) (by omega) (X0.wt (by omega)) (fun g hg => X0.wt (tg_lt g).2) (g := 3) (.head _)) fun c k2 k3 => ?_
  repeat walk_at "e"
  refine ⟨_, X0.meth (t := 1) (by omega) rfl (fun _ _ _ _ => rfl), ?_⟩
  repeat walk_at "e"
  refine c_fn rfl rfl (X0.next (t := 1) (dd := 290) 4 (by omega) (by omega) (by omega) (by rw [k2]; nofun) fun c' h1 n1 e1 X1 => ?_)
  rw [k2] at e1; obtain rfl := Option.some.inj e1
  refine go_next ?_
  have la2 := la1.put (j := 125) (.int c) (by decide)
  have l125 := get_put L1 125 (.int c)
  generalize put L1 125 (.int c) = L2 at la2 l125 ⊢
  clear l117 l118 l119
  have l117 := la2.w
  have l119 := la2.o
  have f0 : setT Φ 1 (sched 290 (Φ 1) 0).1 0 = Φ 0 := setT_ne _ _ (by decide)
  repeat walk_at "e"
  refine k_in (X1.get I.own) ?_
  rcases k3 with ⟨q1, q2, q3⟩ | ⟨q1, y, q2, q3, q4⟩
  ·have ng : c ∉ gs3 := fun w => by
    have := gs3_mem.mp w
    unfold Beside at q1; omega
   rw [dget_map0 ng]
   repeat walk_at "e"
   refine ⟨_, X1.meth (t := 0) (by omega) rfl (fun _ _ _ _ => rfl), ?_⟩
   repeat walk_at "e"
   refine c_fn rfl rfl (X1.next (t := 0) (dd := 290) 4 (by omega) (by omega) (by omega) (by rw [f0, q2]; nofun) fun c' h2 n2 e2 X2 => ?_)
   rw [f0, q2] at e2; obtain rfl := Option.some.inj e2
   rw [f0] at X2
   repeat walk_at "e"
   refine it_f (by simp) ?_
   repeat walk_at "e"
   refine ⟨rfl, a, d, _, F, lo, lh, ll, hr, la2, I.re X2 ?_ ?_⟩
   ·rw [setT_same, setT_ne _ _ (by decide), setT_same]
    exact q3.congr fun g hg => by
     have := tg_lt g
     rw [setT_ne _ _ (by omega), setT_ne _ _ (by omega)]
   ·intro g hg i
    have := tg_lt g
    rw [setT_ne _ _ (by omega), setT_ne _ _ (by omega)]
  ·have ct := tg_lt c
   have fc : setT Φ 1 (sched 290 (Φ 1) 0).1 (tg c) = Φ (tg c) := setT_ne _ _ (by omega)
   rw [dget_map q1]
   repeat walk_at "e"
   refine i_dict (X1.get I.own) (dget_map q1) ?_
   refine ⟨_, X1.meth (t := tg c) ct.2 rfl (fun _ _ _ _ => rfl), ?_⟩
   repeat walk_at "e"
   refine c_fn rfl rfl (X1.next (t := tg c) (dd := 290) 4 ct.2 (by omega) (by omega) (by rw [fc, q2]; nofun) fun c' h2 n2 e2 X2 => ?_)
   rw [fc] at X2
   rw [fc, q2] at e2; obtain rfl := Option.some.inj e2
   have f00 : setT (setT Φ 1 (sched 290 (Φ 1) 0).1) (tg c) (sched 290 (Φ (tg c)) 0).1 0 = Φ 0 := (setT_ne _ _ (by omega)).trans f0
   have wt := X1.wt ct.2
   rw [fc] at wt
   refine xo1_2 (wt.ws (by omega)) fun rk ws rl => ?_
   have r0 := rl 0
   refine xo1_2 wt.root fun r er _ => ?_
   have tn := sched_ok 290 (Φ (tg c)) 0 ws (by omega) (by rw [er]; nofun)
   have la3 := la2.put (j := 125) (.int y) (by decide)
   have m125 := get_put L2 125 (.int y)
   refine go_next (xs_nil (go_next ?_))
   generalize put L2 125 (.int y) = L3 at la3 m125 ⊢
   clear l117 l119 l125
   have l117 := la3.w
   repeat walk_at "e"
   refine ⟨_, X2.meth (t := 0) (by omega) rfl (fun _ _ _ _ => rfl), ?_⟩
   repeat walk_at "e"
   refine c_fn rfl rfl (X2.next (t := 0) (dd := 290) 4 (by omega) (by omega) (by omega) (by rw [f00, q3]; nofun) fun c' h3 n3 e3 X3 => ?_)
   rw [f00, q3] at e3; obtain rfl := Option.some.inj e3
   rw [f00] at X3
   repeat walk_at "e"
   refine it_f (by simp) ?_
   repeat walk_at "e"
   refine ⟨rfl, a, d, _, F, lo, lh, ll, hr, la3, I.re X3 ?_ ?_⟩
   ·rw [setT_same, setT_ne _ _ (by decide), setT_ne _ _ (by omega), setT_same]
    refine q4.congr fun g hg => ?_
    have := tg_lt g
    by_cases z : g = c
    ·rw [z, setT_ne _ _ (by omega), setT_same]; exact (if_pos rfl).symm
    ·rw [setT_ne _ _ (by omega), setT_ne _ _ (fun w => z (tg_inj hg q1 w)), setT_ne _ _ (by omega)]; exact (if_neg z).symm
   ·intro g hg i
    have := tg_lt g
    by_cases z : g = c
    ·rw [z, setT_ne _ _ (by omega), setT_same]; exact (tn.like i).none.symm
    ·rw [setT_ne _ _ (by omega), setT_ne _ _ (fun w => z (tg_inj hg q1 w)), setT_ne _ _ (by omega)]
 ·revert w; refine fun z_ => xo0_2 z_ fun e0_ w => ?_; clear z_; obtain rfl := e0_
  exact go_next (xs_nil ⟨rfl, rfl, w⟩)
 ·obtain ⟨a, d, Φ, F, lo, lh, ll, hr, la, I⟩ := I
  exact ⟨a, d, Φ, F, lo, lh, ll, hr, la, ⟨I.wd.junk _, I.sim, I.ro, I.own, I.here, I.ne, I.iter, I.li, I.inj⟩⟩
end
end
section
open PySem PySem.W PyProof.Rows
theorem dom_deed {T : Tr} {kind x p w : Int} {ex : Bool} (hk : kind ≤ 7) : (toldOf T kind x w = .none → kind < 3 → T x = none ∧ ∀ i, treeOf T kind x p w ex i = none ↔ (i ≠ x ∧ T i = none)) ∧
  (toldOf T kind x w = .none → kind = 7 → T x ≠ none ∧ ∀ i, treeOf T kind x p w ex i = none ↔ (i = x ∨ T i = none)) ∧
  (toldOf T kind x w ≠ .none ∨ (¬ kind < 3 ∧ kind ≠ 7) → ∀ i, treeOf T kind x p w ex i = none ↔ T i = none) := by
 by_cases k3 : kind < 3
 ·have t1 : toldOf T kind x w = if T x = none then (if wok w then .none else .str 22) else .str 111 := by unfold toldOf; rw [if_pos k3]
  have t2 : treeOf T kind x p w ex = if T x = none then (if wok w then putIn T p x w ex else T) else T := by unfold treeOf; rw [if_pos k3]
  rw [t1, t2]
  by_cases hx : T x = none
  ·rw [if_pos hx, if_pos hx]
   by_cases hw : wok w
   ·rw [if_pos hw, if_pos hw]
    refine ⟨fun _ _ => ⟨hx, fun i => ?_⟩, fun _ h => by omega, fun h => by rcases h with h | h; exact (h rfl).elim; exact (h.1 k3).elim⟩
    rw [putIn_none]
    by_cases q : i = x
    ·rw [q, setN_same]; simp
    ·rw [setN_ne _ _ q]; simp [q]
   ·rw [if_neg hw, if_neg hw]
    exact ⟨nofun, nofun, fun _ _ => .rfl⟩
  ·rw [if_neg hx, if_neg hx]
   exact ⟨nofun, nofun, fun _ _ => .rfl⟩
 ·have t1 : toldOf T kind x w = if T x = none then .str 112 else if kind = 3 then (if wok w then .none else .str 22) else .none := by unfold toldOf; rw [if_neg k3]
  have t2 : treeOf T kind x p w ex = match T x with
   | none => T
   | some nx => if kind = 3 then (if wok w then moved (setN T x { nx with w := w }) (parOf T x) p x ex else T)
    else if kind < 6 then setN T x { nx with act := false } else if kind = 6 then setN T x { nx with act := true } else takeOut T (parOf T x) x := by unfold treeOf; rw [if_neg k3] <;> rfl
  rw [t1, t2]
  refine ⟨fun _ h => (k3 h).elim, ?_, ?_⟩
  ·intro h h7
   subst h7
   cases hx : T x with
   | none => rw [hx, if_pos rfl] at h; exact absurd h nofun
   | some nx =>
    refine ⟨nofun, fun i => ?_⟩
    dsimp only
    rw [if_neg (by decide), if_neg (by decide), if_neg (by decide), takeOut_none]
  ·intro h i
   cases hx : T x with
   | none => exact .rfl
   | some nx =>
    rw [hx] at h
    dsimp only
    by_cases e3 : kind = 3
    ·rw [if_pos e3]
     by_cases hw : wok w
     ·rw [if_pos hw]; exact moved_none.trans (setN_none (by rw [hx]; nofun))
     ·rw [if_neg hw]
    ·rw [if_neg e3]
     by_cases e6 : kind < 6
     ·rw [if_pos e6]; exact setN_none (by rw [hx]; nofun)
     ·rw [if_neg e6]
      by_cases e7 : kind = 6
      ·rw [if_pos e7]; exact setN_none (by rw [hx]; nofun)
      ·rcases h with h | h
       ·rw [if_neg (by nofun), if_neg e3] at h; exact (h rfl).elim
       ·omega
section
variable {C : Nat → List AV → St → R AV} {E : Est} {k n : Nat} {h : Hp} {L : Lo} {M : Nat} {a d : Nat → Nat} {F : Hp} {Φ : Fo} {t : Nat} {ns : List Int} {Φ' : Fo} {h' : Hp} {n' iter lo lh N : Nat} {io : AO} {xs : List Int} {g x w p nn kind : Int} {ll : Int → Nat} {hr : Int → List Int} {ex : Bool} {Q : Pst AV}
theorem Stay.hrLen (I : Stay gs3 M ns iter io a d Φ F lo lh ll hr h n) (hg : g ∈ gs3) : (hr g).length ≤ M + 1 := by
 refine xo0_4 (I.li g hg) fun c1 c2 c3 c4 => ?_
 have X0 : World 5 M a d Φ F h n := I.wd
 refine xo1_2 ((X0.wt (tg_lt g).2).fin) fun ids h1 h2 => ?_
 have := nodup_len c3 (ys := g :: ids) fun i hi => by
  rcases (c4 i).mp hi with h | h
  ·rw [h]; exact .head _
  ·exact .tail _ (h2 i h.2)
 simp at this; omega
theorem ife_same {b : Bool} {e e' : Mine.E} {v : AV} (h1 : b = true → Q v L h n k → Wp (evalE sg C e ⟨L, h, n, k⟩) Q E) (h2 : b = false → Q v L h n k → Wp (evalE sg C e' ⟨L, h, n, k⟩) Q E) (q : Q v L h n k) : if b = true then Wp (evalE sg C e ⟨L, h, n, k⟩) Q E else Wp (evalE sg C e' ⟨L, h, n, k⟩) Q E := it_s (fun z => h1 z q) fun z => h2 z q
theorem deeds (hM : M < 250) (la : LA a lo lh L) (I : Stay gs3 M ns iter io a d Φ F lo lh ll hr h n) (hk : 0 ≤ kind ∧ kind ≤ 7) (hg : g ∈ gs3) (hx : Dg g x) (x6 : x ≠ g + 6) (l106 : get? L 106 = some (.int kind)) (l107 : get? L 107 = some (.int x)) (l121 : get? L 121 = some (.int g)) (l108 : get? L 108 = some (.int p)) (l22 : get? L 22 = some (.int w)) (l109 : get? L 109 = some (.bool ex))
  (hp : (kind = 3 ∧ p = g) ∨ (kind ≠ 3 ∧ p ∈ hr g)) :
  Wp (execs sg (callF sg 300) (match (b30.at 6).bdy.at 7 with | .ife _ _ (.cons (.ife _ _ (.cons (.ife _ _ r _) _) _) _) _ => r | _ => .nil) ⟨L, h, n, 0⟩) (fun f L' h' n' k' => f = .next ∧ k' = 0 ∧ Main (M + 2) ns iter io L' h' n') E := by
 have X0 : World 5 M a d Φ F h n := I.wd
 have l117 := la.w
 have l119 := la.o
 have g3 := gs3_mem.mp hg
 have gt := tg_lt g
 have x0 := hx.rng
 have WO := X0.wt gt.2
 have WW := X0.wt (t := 0) (by omega)
 refine xo0_4 (I.li g hg) fun c1 c2 c3 c4 => ?_
 have hlen := I.hrLen hg
 obtain ⟨q, hq, qO, pq⟩ : ∃ q, q = (if p = g then 0 else p) ∧ Φ (tg g) q ≠ none ∧ p = fi g q := by
  refine ⟨_, rfl, ?_, ?_⟩
  ·by_cases z : p = g
   ·rw [if_pos z]; obtain ⟨r, e, _⟩ := WO.root; rw [e]; nofun
   ·rw [if_neg z]
    rcases hp with h | h
    ·exact (z h.2).elim
    ·exact (((c4 p).mp h.2).resolve_left z).2
  ·by_cases z : p = g
   ·rw [if_pos z, fi_0]; exact z
   ·rw [if_neg z]
    rcases hp with h | h
    ·exact (z h.2).elim
    ·exact (fi_ne (((c4 p).mp h.2).resolve_left z).1).symm
 have q3 : kind = 3 → q = 0 := fun e => by
  rcases hp with h | h
  ·rw [hq, if_pos h.2]
  ·exact (h.1 e).elim
 refine xo1_4 (I.sim.gr g hg) fun t t1 t2 t3 EM => ?_
 refine xo2_6 EM.root fun o wg r1 r2 _ _ _ r6 => ?_
 have wgp : wg.par = some 0 := congrArg (·.2.2.2) r6
 have pW : Φ 0 p ≠ none := by
  refine xo1_1 (Option.ne_none_iff_exists'.mp qO) fun nq hnq => ?_
  refine xo1_2 (EM.at_ hnq) fun wi e _ => ?_
  rw [pq, e]; nofun
 have n00 : Φ 0 0 ≠ none := by obtain ⟨r, e, _⟩ := WW.root; rw [e]; nofun
 obtain ⟨tl, S'⟩ := I.sim.deed (kind := kind) (w := w) (ex := ex) hg WO hx x6 qO fun e _ => by rw [q3 e]; omega
 rw [← pq] at S'
 have td := told_told (Φ (tg g)) kind x w
 refine xo0_3 (dom_deed (T := Φ (tg g)) (kind := kind) (x := x) (p := q) (w := w) (ex := ex) hk.2) fun D1 D2 D3 => ?_
 delta b30
 dsimp only [Ss.at, S.bdy]
 repeat walk_at "e"
 refine c_fn rfl rfl (X0.deed (t := 0) (p := p) 292 (by omega) (by omega) x0 (.inl rfl) pW (fun e _ => ?_) fun h1 n1 X1 => ?_)
 ·have : p = g := by rw [pq, q3 e, fi_0]
  rw [this]
  exact ⟨(hx.ng g3).symm, WW.noSBg r2 wgp (by omega), .inr (climb_g r2 wgp n00 (by omega))⟩
 rw [tl]
 generalize ev : toldOf (Φ (tg g)) kind x w = v at td D1 D2 D3 ⊢
 have ev := ev.symm
 refine go_next ?_
 have la1 := la.put (j := 125) v (by decide)
 have l125 := get_put L 125 v
 have f : ∀ {i y}, get? L i = some y → i ≠ 125 → get? (put L 125 v) i = some y := fun e z => (get_put_ne L v z).trans e
 have m106 := f l106 (by decide)
 have m107 := f l107 (by decide)
 have m121 := f l121 (by decide)
 have m108 := f l108 (by decide)
 have m22 := f l22 (by decide)
 have m109 := f l109 (by decide)
 obtain ⟨L1, eL1⟩ : ∃ L1, L1 = put L 125 v := ⟨_, rfl⟩
 clear f l106 l107 l121 l108 l22 l109 l117 l119
 rw [← eL1] at la1 l125 m106 m107 m121 m108 m22 m109 ⊢
 have l117 := la1.w
 have l119 := la1.o
 have l120 := la1.h
 have fO : setT Φ 0 (treeOf (Φ 0) kind x p w ex) (tg g) = Φ (tg g) := setT_ne _ _ (by omega)
 repeat walk_at "e"
 refine i_dict (X1.get I.own) (dget_map hg) ?_
 repeat walk_at "e"
 refine ife_same (v := .int q) (fun z y => ?_) (fun z y => ?_) ?_
 ·rw [hq, if_pos (of_decide_eq_true z)] at y; exact e_ci y
 ·rw [hq, if_neg (of_decide_eq_false z)] at y; exact e_lv m108 y
 repeat walk_at "e"
 refine c_fn rfl rfl (X1.deed (t := tg g) (p := q) 292 gt.2 (by omega) x0 (.inl rfl) (by rw [fO]; exact qO) (fun e _ => ?_) fun h2 n2 X2 => ?_)
 ·rw [fO, q3 e]; exact ⟨by omega, WO.noSB0, .inl rfl⟩
 rw [fO] at X2 ⊢
 rw [← ev]
 repeat walk_at "e"
 refine k_neT td ?_
 repeat walk_at "e"
 refine k_isT td ?_
 have XX : Sim gs3 (setT (setT Φ 0 (treeOf (Φ 0) kind x p w ex)) (tg g) (treeOf (Φ (tg g)) kind x q w ex) 1) (setT (setT Φ 0 (treeOf (Φ 0) kind x p w ex)) (tg g) (treeOf (Φ (tg g)) kind x q w ex) 0) fun g' => setT (setT Φ 0 (treeOf (Φ 0) kind x p w ex)) (tg g) (treeOf (Φ (tg g)) kind x q w ex) (tg g') := by
  rw [setT_ne _ _ (by omega), setT_ne _ _ (by decide), setT_ne _ _ (by omega), setT_same]
  refine S'.congr fun g' hg' => ?_
  have := tg_lt g'
  by_cases z : g' = g
  ·rw [z, setT_same]; exact (if_pos rfl).symm
  ·rw [setT_ne _ _ (fun w => z (tg_inj hg' hg w)), setT_ne _ _ (by omega)]; exact (if_neg z).symm
 have oth : ∀ g' ∈ gs3, g' ≠ g → setT (setT Φ 0 (treeOf (Φ 0) kind x p w ex)) (tg g) (treeOf (Φ (tg g)) kind x q w ex) (tg g') = Φ (tg g') := fun g' hg' z => by
  have := tg_lt g'
  rw [setT_ne _ _ (fun w => z (tg_inj hg' hg w)), setT_ne _ _ (by omega)]
 have own : setT (setT Φ 0 (treeOf (Φ 0) kind x p w ex)) (tg g) (treeOf (Φ (tg g)) kind x q w ex) (tg g) = treeOf (Φ (tg g)) kind x q w ex := setT_same ..
 generalize setT (setT Φ 0 (treeOf (Φ 0) kind x p w ex)) (tg g) (treeOf (Φ (tg g)) kind x q w ex) = Φ' at XX oth own X2
 have stay : (∀ i, treeOf (Φ (tg g)) kind x q w ex i = none ↔ Φ (tg g) i = none) → Main (M + 2) ns iter io L1 h2 n2 := fun e => ⟨a, d, Φ', F, lo, lh, ll, hr, la1, I.re X2 XX fun g' hg' i => by
  by_cases z : g' = g
  ·rw [z, own]; exact e i
  ·rw [oth g' hg' z]⟩
 have x_g := hx.ng g3
 repeat walk_at "e"
 by_cases hv : v = .none
 ·rw [if_pos (by rw [decide_eq_true hv])]
  repeat walk_at "e"
  refine it_s (fun z3 => ?_) fun z3 => ?_
  ·have z3 := of_decide_eq_true z3
   refine xo0_2 (D1 hv z3) fun b1 b2 => ?_
   repeat walk_at "e"
   refine i_dict (X2.get I.here) (dget_map hg) ?_
   refine ⟨_, m_append (X2.get c1), ?_⟩
   repeat walk_at "e"
   refine c_append (X2.get c1) (by rw [List.length_map]; omega) ?_
   have X3 := X2.put c1 rfl (.list ((hr g).map AV.int ++ [.int x]))
   rw [show (hr g).map AV.int ++ [.int x] = (hr g ++ [x]).map .int by rw [List.map_append]; rfl] at X3 ⊢
   refine ⟨trivial, ?_⟩
   repeat walk_at "e"
   refine k_isT td ?_
   repeat walk_at "e"
   rw [if_pos (by rw [decide_eq_true hv])]
   repeat walk_at "e"
   refine it_f (decide_eq_false (by omega)) ?_
   repeat walk_at "e"
   refine ⟨rfl, rfl, a, d, Φ', _, lo, lh, ll, _, la1, I.list hg X3 XX ?_ (fun i => ?_) oth⟩
   ·refine List.nodup_append.mpr ⟨c3, by simp, fun y hy z hz e => ?_⟩
    rw [List.mem_singleton.mp hz] at e
    rcases (c4 y).mp hy with h | h
    ·exact x_g (e.symm.trans h)
    ·rw [e] at h; exact h.2 b1
   ·rw [own, ne_eq (treeOf (Φ (tg g)) kind x q w ex i) none, b2, List.mem_append, List.mem_singleton, c4]
    constructor
    ·rintro ((h | h) | h)
     ·exact .inl h
     ·exact .inr ⟨h.1, fun w => h.2 w.2⟩
     ·exact .inr ⟨by omega, fun w => w.1 h⟩
    ·rintro (h | ⟨h1, h2⟩)
     ·exact .inl (.inl h)
     ·by_cases z : i = x
      ·exact .inr z
      ·exact .inl (.inr ⟨h1, fun w => h2 ⟨z, w⟩⟩)
  ·have z3 := of_decide_eq_false z3
   repeat walk_at "e"
   refine k_isT td ?_
   repeat walk_at "e"
   rw [if_pos (by rw [decide_eq_true hv])]
   repeat walk_at "e"
   refine it_s (fun z7 => ?_) fun z7 => ?_
   ·have z7 := of_decide_eq_true z7
    refine xo0_2 (D2 hv z7) fun b1 b2 => ?_
    repeat walk_at "e"
    refine i_dict (X2.get I.here) (dget_map hg) ?_
    refine ⟨_, m_remove (X2.get c1), ?_⟩
    repeat walk_at "e"
    have xm : x ∈ hr g := (c4 x).mpr (.inr ⟨by omega, b1⟩)
    refine c_remove (X2.get c1) (rm_int (hr g) [] _ (by rw [List.length_map]; exact Nat.lt_succ_self _) (X2.get c1) xm ?_)
    rw [List.nil_append]
    have X3 := X2.put c1 rfl (.list (((hr g).erase x).map AV.int))
    refine ⟨trivial, ?_⟩
    repeat walk_at "e"
    refine ⟨rfl, rfl, a, d, Φ', _, lo, lh, ll, _, la1, I.list hg X3 XX (c3.erase x) (fun i => ?_) oth⟩
    rw [own, ne_eq (treeOf (Φ (tg g)) kind x q w ex i) none, b2, c3.mem_erase_iff, c4]
    constructor
    ·rintro ⟨h1, h | h⟩
     ·exact .inl h
     ·exact .inr ⟨h.1, fun w => w.elim h1 h.2⟩
    ·rintro (h | ⟨h1, h2⟩)
     ·exact ⟨by omega, .inl h⟩
     ·exact ⟨fun w => h2 (.inl w), .inr ⟨h1, fun w => h2 (.inr w)⟩⟩
   ·have z7 := of_decide_eq_false z7
    repeat walk_at "e"
    exact ⟨rfl, rfl, stay (D3 (.inr ⟨z3, z7⟩))⟩
 ·rw [if_neg (by rw [decide_eq_false hv]; nofun)]
  repeat walk_at "e"
  rw [decide_eq_false hv]
  repeat walk_at "e"
  refine k_isT td ?_
  repeat walk_at "e"
  rw [if_neg (by rw [decide_eq_false hv]; nofun)]
  repeat walk_at "e"
  rw [decide_eq_false hv]
  repeat walk_at "e"
  exact ⟨rfl, rfl, stay (D3 (.inl hv))⟩
end
end
section
open PySem PySem.W PyProof.Rows
section
variable {C : Nat → List AV → St → R AV} {E : Est} {k n : Nat} {h : Hp} {L : Lo} {M : Nat} {a d : Nat → Nat} {F : Hp} {Φ : Fo} {t : Nat} {ns : List Int} {Φ' : Fo} {h' : Hp} {n' iter lo lh N : Nat} {io : AO} {xs : List Int} {g b x w p nn num kind : Int} {ll : Int → Nat} {hr : Int → List Int} {ex : Bool} {Q : Pst AV}
theorem Stay.two (I : Stay gs3 M ns iter io a d Φ F lo lh ll hr h n) {W P : Tr} (X : World 5 N a d (setT (setT Φ 0 W) 1 P) F h' n') (S : Sim gs3 P W fun g => Φ (tg g)) : Stay gs3 N ns iter io a d (setT (setT Φ 0 W) 1 P) F lo lh ll hr h' n' := by
 have e : ∀ g, setT (setT Φ 0 W) 1 P (tg g) = Φ (tg g) := fun g => by
  have := tg_lt g
  rw [setT_ne _ _ (by omega), setT_ne _ _ (by omega)]
 refine I.re X ?_ fun g _ i => by rw [e]
 rw [setT_same, setT_ne _ _ (by decide), setT_same]
 exact S.congr fun g _ => e g
theorem weighs (hM : M < 250) (I : Main M ns iter io L h n) (hg : g ∈ gs3) (l121 : get? L 121 = some (.int g)) (l22 : get? L 22 = some (.int w)) :
  Wp (execs sg (callF sg 300) (match (b30.at 6).bdy.at 7 with | .ife _ _ (.cons (.ife _ r _ _) _) _ => r | _ => .nil) ⟨L, h, n, 0⟩) (fun f L' h' n' k' => f = .next ∧ k' = 0 ∧ Main (M + 2) ns iter io L' h' n') E := by
 obtain ⟨a, d, Φ, F, lo, lh, ll, hr, la, I⟩ := I
 have X0 : World 5 M a d Φ F h n := I.wd
 have l117 := la.w
 have l118 := la.t
 have g3 := gs3_mem.mp hg
 have WP := X0.wt (t := 1) (by omega)
 have WW := X0.wt (t := 0) (by omega)
 refine xo1_2 WP.root fun r er _ => ?_
 have n00 : Φ 0 0 ≠ none := by rw [I.sim.z, er]; nofun
 refine xo0_2 (I.sim.weigh (w := w) hg er) fun te S' => ?_
 delta b30
 dsimp only [Ss.at, S.bdy]
 repeat walk_at "e"
 refine c_fn rfl rfl (X0.deed (t := 0) (p := 0) 292 (by omega) (by omega) (by omega) (.inl rfl) n00 (fun _ _ => ⟨by omega, WW.noSB0, .inl rfl⟩) fun h1 n1 X1 => ?_)
 have f1 : setT Φ 0 (treeOf (Φ 0) 3 g 0 w false) 1 = Φ 1 := setT_ne _ _ (by decide)
 repeat walk_at "e"
 refine c_fn rfl rfl (X1.deed (t := 1) (p := 0) 292 (by omega) (by omega) (by omega) (.inl rfl) (by rw [f1, er]; nofun) (fun _ _ => ⟨by omega, by rw [f1]; exact WP.noSB0, .inl rfl⟩) fun h2 n2 X2 => ?_)
 rw [f1] at X2 ⊢
 rw [te]
 refine k_neT (told_told _ _ _ _) ?_
 repeat walk_at "e"
 exact ⟨rfl, rfl, a, d, _, F, lo, lh, ll, hr, la, I.two X2 S'⟩
theorem besides (hM : M < 250) (I : Main M ns iter io L h n) (hn : 0 ≤ nn) (l123 : get? L 123 = some (.int nn)) (l22 : get? L 22 = some (.int w)) :
  Wp (execs sg (callF sg 300) (match (b30.at 6).bdy.at 7 with | .ife _ _ (.cons (.ife _ _ (.cons (.ife _ r _ _) _) _) _) _ => r | _ => .nil) ⟨L, h, n, 0⟩) (fun f L' h' n' k' => f = .next ∧ k' = 0 ∧ Main (M + 2) ns iter io L' h' n') E := by
 obtain ⟨a, d, Φ, F, lo, lh, ll, hr, la, I⟩ := I
 have X0 : World 5 M a d Φ F h n := I.wd
 have WP := X0.wt (t := 1) (by omega)
 have WW := X0.wt (t := 0) (by omega)
 refine xo1_2 WP.root fun r er _ => ?_
 have n00 : Φ 0 0 ≠ none := by rw [I.sim.z, er]; nofun
 obtain ⟨j, ej⟩ : ∃ j, j = Int.fmod (Int.fdiv nn 13) 5 := ⟨_, rfl⟩
 have j1 : 0 ≤ j ∧ j < 5 := by
  rw [ej]; exact ⟨Int.fmod_nonneg_of_pos _ (by decide), Int.fmod_lt_of_pos _ (by decide)⟩
 obtain ⟨kind, ek, k0⟩ : ∃ kind : Int, ([.int 0, .int 3, .int 4, .int 6, .int 7] : List AV)[j.toNat]? = some (.int kind) ∧ 0 ≤ kind := by
  have : j = 0 ∨ j = 1 ∨ j = 2 ∨ j = 3 ∨ j = 4 := by
   refine xo1_1 (Int.eq_ofNat_of_zero_le j1.1) fun m e1_ => ?_; obtain rfl := e1_
   exact (show ∀ m : Fin 5, ((m : Nat) : Int) = 0 ∨ ((m : Nat) : Int) = 1 ∨ ((m : Nat) : Int) = 2 ∨ ((m : Nat) : Int) = 3 ∨ ((m : Nat) : Int) = 4 by decide) ⟨m, Int.ofNat_lt.mp j1.2⟩
  rcases this with rfl | rfl | rfl | rfl | rfl
  ·exact ⟨0, rfl, by decide⟩
  ·exact ⟨3, rfl, by decide⟩
  ·exact ⟨4, rfl, by decide⟩
  ·exact ⟨6, rfl, by decide⟩
  ·exact ⟨7, rfl, by decide⟩
 obtain ⟨b, eb⟩ : ∃ b, b = 41 + 2 * Int.fmod (Int.fdiv nn 7) 3 := ⟨_, rfl⟩
 have hb : Beside b := by
  have := Int.fmod_nonneg_of_pos (Int.fdiv nn 7) (show (0 : Int) < 3 by decide)
  have := Int.fmod_lt_of_pos (Int.fdiv nn 7) (show (0 : Int) < 3 by decide)
  unfold Beside; omega
 have b0 : 0 < b ∧ b < 1000000000 := by unfold Beside at hb; omega
 refine xo0_2 (I.sim.beside (kind := kind) (w := w) hb er k0) fun te S' => ?_
 delta b30
 dsimp only [Ss.at, S.bdy]
 repeat walk_at "e"
 refine ⟨Nat.le_of_ble_eq_true rfl, ?_⟩
 repeat walk_at "e"
 refine o_div (by decide) ?_
 repeat walk_at "e"
 refine o_mod (by decide) ?_
 rw [← ej]
 refine i_list (upd_same ..) j1.1 ek ?_
 refine go_next ?_
 have X1 := X0.junk (.list [.int 0, .int 3, .int 4, .int 6, .int 7])
 generalize upd h n (.list [.int 0, .int 3, .int 4, .int 6, .int 7]) = h1 at X1 ⊢
 have la1 := la.put (j := 126) (.int kind) (by decide)
 have m126 := get_put L 126 (.int kind)
 have m123 := (get_put_ne L (.int kind) (show 123 ≠ 126 by decide)).trans l123
 have m22 := (get_put_ne L (.int kind) (show 22 ≠ 126 by decide)).trans l22
 generalize put L 126 (.int kind) = L1 at la1 m126 m123 m22 ⊢
 clear l123 l22
 repeat walk_at "e"
 refine o_div (by decide) ?_
 repeat walk_at "e"
 refine o_mod (by decide) ?_
 refine o_mul (by decide) ?_
 refine o_add ?_
 rw [← eb]
 refine go_next ?_
 have la2 := la1.put (j := 127) (.int b) (by decide)
 have l127 := get_put L1 127 (.int b)
 have l126 := (get_put_ne L1 (.int b) (show 126 ≠ 127 by decide)).trans m126
 have l22 := (get_put_ne L1 (.int b) (show 22 ≠ 127 by decide)).trans m22
 generalize put L1 127 (.int b) = L2 at la2 l127 l126 l22 ⊢
 clear m126 m22 m123
 have l117 := la2.w
 have l118 := la2.t
 repeat walk_at "e"
 refine c_fn rfl rfl (X1.deed (t := 0) (p := 0) 292 (by omega) (by omega) b0 (.inr ⟨rfl, rfl⟩) n00 (fun _ _ => ⟨by omega, WW.noSB0, .inl rfl⟩) fun h2 n2 X2 => ?_)
 have f1 : setT Φ 0 (treeOf (Φ 0) kind b 0 w false) 1 = Φ 1 := setT_ne _ _ (by decide)
 repeat walk_at "e"
 refine c_fn rfl rfl (X2.deed (t := 1) (p := 0) 292 (by omega) (by omega) b0 (.inr ⟨rfl, rfl⟩) (by rw [f1, er]; nofun) (fun _ _ => ⟨by omega, by rw [f1]; exact WP.noSB0, .inl rfl⟩) fun h3 n3 X3 => ?_)
 rw [f1] at X3 ⊢
 rw [te]
 refine k_neT (told_told _ _ _ _) ?_
 repeat walk_at "e"
 exact ⟨rfl, rfl, a, d, _, F, lo, lh, ll, hr, la2, I.two X3 S'⟩
end
end
section
open PySem PySem.W PyProof.Rows
section
variable {C : Nat → List AV → St → R AV} {E : Est} {k n : Nat} {h : Hp} {L : Lo} {M : Nat} {a d : Nat → Nat} {F : Hp} {Φ : Fo} {t : Nat} {ns : List Int} {Φ' : Fo} {h' : Hp} {n' iter lo lh N : Nat} {io : AO} {xs : List Int} {g b x w p nn num kind : Int} {ll : Int → Nat} {hr : Int → List Int} {ex : Bool} {Q : Pst AV}
theorem Main.more (I : Main M ns iter io L h n) (hM : M ≤ N) : Main N ns iter io L h n := by
 obtain ⟨a, d, Φ, F, lo, lh, ll, hr, la, I⟩ := I
 have X : World 5 N a d Φ F h n := World.more I.wd hM
 exact ⟨a, d, Φ, F, lo, lh, ll, hr, la, I.re X I.sim fun _ _ _ => .rfl⟩
theorem line (hM : M < 250) (I : Main M ns iter io L h n) (l122 : get? L 122 = some (.int num)) :
  Wp (execs sg (callF sg 300) (b30.at 6).bdy ⟨L, h, n, 0⟩) (fun f L' h' n' k' => f = .next ∧ k' = 0 ∧ Main (M + 2) ns iter io L' h' n') E := by
 obtain ⟨nn, enn⟩ : ∃ nn, nn = if num < 0 then -num else num := ⟨_, rfl⟩
 have n0 : 0 ≤ nn := by rw [enn]; split <;> omega
 obtain ⟨kind, ek⟩ : ∃ kind, kind = Int.fmod nn 13 := ⟨_, rfl⟩
 obtain ⟨x, ex⟩ : ∃ x, x = 21 + 2 * Int.fmod nn 9 := ⟨_, rfl⟩
 obtain ⟨g, eg⟩ : ∃ g, g = 3 + 2 * Int.fmod nn 3 := ⟨_, rfl⟩
 have k1 : 0 ≤ kind ∧ kind < 13 := by
  rw [ek]; exact ⟨Int.fmod_nonneg_of_pos _ (by decide), Int.fmod_lt_of_pos _ (by decide)⟩
 have xg : (g = 3 ∨ g = 5 ∨ g = 7) ∧ Dg g x ∧ x ≠ g + 6 := by
  rw [Int.fmod_eq_emod_of_nonneg _ (by decide)] at ex eg
  subst ex eg
  exact Dg.line nn
 have hg : g ∈ gs3 := gs3_mem.mpr xg.1
 have T := fun (L : Lo) (I : Main M ns iter io L h n) => turns (E := E) (by omega) I
 have We := fun (w : Int) (L : Lo) (I : Main M ns iter io L h n) => weighs (w := w) (E := E) hM I hg
 have Be := fun (w : Int) (L : Lo) (I : Main M ns iter io L h n) => besides (w := w) (E := E) hM I n0
 have De := fun (w p : Int) (ex : Bool) (L : Lo) a d Φ F lo lh ll hr (la : LA a lo lh L) (I : Stay gs3 M ns iter io a d Φ F lo lh ll hr h n) (k7 : kind ≤ 7) => deeds (w := w) (p := p) (ex := ex) (E := E) hM la I ⟨k1.1, k7⟩ hg xg.2.1 xg.2.2
 delta b30
 dsimp only [Ss.at, S.bdy]
 obtain ⟨a, d, Φ, F, lo, lh, ll, hr, la, I⟩ := I
 have X0 : World 5 M a d Φ F h n := I.wd
 refine xo0_4 (I.li g hg) fun c1 c2 c3 c4 => ?_
 have hpos : 0 < (hr g).length := List.length_pos_of_mem ((c4 g).mpr (.inl rfl))
 have hlen := I.hrLen hg
 repeat walk_at "e"
 refine bi_abs ?_
 rw [← enn]
 refine go_next ?_
 have la1 := la.put (j := 123) (.int nn) (by decide)
 have m123 := get_put L 123 (.int nn)
 generalize eL1 : put L 123 (.int nn) = L1 at la1 m123 ⊢
 have eL1 := eL1.symm
 clear l122 eL1
 repeat walk_at "e"
 refine o_mod (by decide) ?_
 rw [← ek]
 refine go_next ?_
 have la2 := la1.put (j := 106) (.int kind) (by decide)
 have p106 := get_put L1 106 (.int kind)
 have p123 := (get_put_ne L1 (.int kind) (show 123 ≠ 106 by decide)).trans m123
 generalize eL2 : put L1 106 (.int kind) = L2 at la2 p106 p123 ⊢
 have eL2 := eL2.symm
 clear m123 eL2
 repeat walk_at "e"
 refine o_mod (by decide) ?_
 refine o_mul (by decide) ?_
 refine o_add ?_
 rw [← ex]
 refine go_next ?_
 have la3 := la2.put (j := 107) (.int x) (by decide)
 have m107 := get_put L2 107 (.int x)
 have m106 := (get_put_ne L2 (.int x) (show 106 ≠ 107 by decide)).trans p106
 have m123 := (get_put_ne L2 (.int x) (show 123 ≠ 107 by decide)).trans p123
 generalize eL3 : put L2 107 (.int x) = L3 at la3 m107 m106 m123 ⊢
 have eL3 := eL3.symm
 clear p106 p123 eL3
 repeat walk_at "e"
 refine o_mod (by decide) ?_
 refine o_mul (by decide) ?_
 refine o_add ?_
 rw [← eg]
 refine go_next ?_
 have la4 := la3.put (j := 121) (.int g) (by decide)
 have p121 := get_put L3 121 (.int g)
 have p107 := (get_put_ne L3 (.int g) (show 107 ≠ 121 by decide)).trans m107
 have p106 := (get_put_ne L3 (.int g) (show 106 ≠ 121 by decide)).trans m106
 have p123 := (get_put_ne L3 (.int g) (show 123 ≠ 121 by decide)).trans m123
 generalize eL4 : put L3 121 (.int g) = L4 at la4 p121 p107 p106 p123 ⊢
 have eL4 := eL4.symm
 clear m107 m106 m123 eL4
 have l120 := la4.h
 obtain ⟨j, ej⟩ : ∃ j, j = Int.fmod (Int.fdiv nn 9) (hr g).length := ⟨_, rfl⟩
 have j1 : 0 ≤ j ∧ j < (hr g).length := by
  rw [ej]; exact ⟨Int.fmod_nonneg_of_pos _ (by omega), Int.fmod_lt_of_pos _ (by omega)⟩
 obtain ⟨p0, ep0⟩ : ∃ p0, (hr g)[j.toNat]? = some p0 := ⟨_, List.getElem?_eq_getElem (by omega)⟩
 obtain ⟨p, ep⟩ : ∃ p, p = if kind = 3 then g else p0 := ⟨_, rfl⟩
 have hp : (kind = 3 ∧ p = g) ∨ (kind ≠ 3 ∧ p ∈ hr g) := by
  by_cases z : kind = 3
  ·rw [if_pos z] at ep; exact .inl ⟨z, ep⟩
  ·rw [if_neg z] at ep; exact .inr ⟨z, by rw [ep]; exact List.mem_of_getElem? ep0⟩
 repeat walk_at "e"
 refine ife_same (v := .int p) (fun z y => ?_) (fun z y => ?_) ?_
 ·rw [ep, if_pos (of_decide_eq_true z)] at y; exact e_lv p121 y
 ·rw [ep, if_neg (of_decide_eq_false z)] at y
  repeat walk_at "e"
  refine i_dict (X0.get I.here) (dget_map hg) ?_
  repeat walk_at "e"
  refine o_div (by decide) ?_
  repeat walk_at "e"
  refine i_dict (X0.get I.here) (dget_map hg) ?_
  repeat walk_at "e"
  refine bi_len (X0.get c1) ?_
  rw [List.length_map]
  refine o_mod (by omega) ?_
  rw [← ej]
  refine i_list (X0.get c1) j1.1 (x := .int p0) (by rw [List.getElem?_map, ep0]; rfl) y
 refine go_next ?_
 have la5 := la4.put (j := 108) (.int p) (by decide)
 have m108 := get_put L4 108 (.int p)
 have m121 := (get_put_ne L4 (.int p) (show 121 ≠ 108 by decide)).trans p121
 have m107 := (get_put_ne L4 (.int p) (show 107 ≠ 108 by decide)).trans p107
 have m106 := (get_put_ne L4 (.int p) (show 106 ≠ 108 by decide)).trans p106
 have m123 := (get_put_ne L4 (.int p) (show 123 ≠ 108 by decide)).trans p123
 generalize eL5 : put L4 108 (.int p) = L5 at la5 m108 m121 m107 m106 m123 ⊢
 have eL5 := eL5.symm
 clear p121 p107 p106 p123 eL5 l120
 repeat walk_at "e"
 refine o_mod (by decide) ?_
 repeat walk_at "e"
 generalize decide (Int.fmod nn 5 = 0) = xc
 have la6 := la5.put (j := 109) (.bool xc) (by decide)
 have p109 := get_put L5 109 (.bool xc)
 have p108 := (get_put_ne L5 (.bool xc) (show 108 ≠ 109 by decide)).trans m108
 have p121 := (get_put_ne L5 (.bool xc) (show 121 ≠ 109 by decide)).trans m121
 have p107 := (get_put_ne L5 (.bool xc) (show 107 ≠ 109 by decide)).trans m107
 have p106 := (get_put_ne L5 (.bool xc) (show 106 ≠ 109 by decide)).trans m106
 have p123 := (get_put_ne L5 (.bool xc) (show 123 ≠ 109 by decide)).trans m123
 generalize eL6 : put L5 109 (.bool xc) = L6 at la6 p109 p108 p121 p107 p106 p123 ⊢
 have eL6 := eL6.symm
 clear m108 m121 m107 m106 m123 eL6
 repeat walk_at "e"
 refine o_div (by decide) ?_
 repeat walk_at "e"
 refine o_mod (by decide) ?_
 generalize Int.fmod (Int.fdiv nn 585 + nn + 16) 259 = w
 refine go_next ?_
 have la7 := la6.put (j := 22) (.int w) (by decide)
 have m22 := get_put L6 22 (.int w)
 have m109 := (get_put_ne L6 (.int w) (show 109 ≠ 22 by decide)).trans p109
 have m108 := (get_put_ne L6 (.int w) (show 108 ≠ 22 by decide)).trans p108
 have m121 := (get_put_ne L6 (.int w) (show 121 ≠ 22 by decide)).trans p121
 have m107 := (get_put_ne L6 (.int w) (show 107 ≠ 22 by decide)).trans p107
 have m106 := (get_put_ne L6 (.int w) (show 106 ≠ 22 by decide)).trans p106
 have m123 := (get_put_ne L6 (.int w) (show 123 ≠ 22 by decide)).trans p123
 generalize eL7 : put L6 22 (.int w) = L7 at la7 m22 m109 m108 m121 m107 m106 m123 ⊢
 have eL7 := eL7.symm
 clear p109 p108 p121 p107 p106 p123 eL7
 have MI : Main M ns iter io L7 h n := ⟨a, d, Φ, F, lo, lh, ll, hr, la7, I⟩
 repeat walk_at "e"
 refine it_s (fun z => ?_) fun z => ?_
 ·refine (T L7 MI).imp fun f L h n k w => ?_
  revert w; refine fun z_ => xo0_3 z_ fun e0_ e1_ w => ?_; clear z_; obtain rfl := e0_; obtain rfl := e1_
  exact go_next (xs_nil ⟨rfl, rfl, w.more (by omega)⟩)
 ·have z9 := of_decide_eq_false z
  repeat walk_at "e"
  refine it_s (fun z => ?_) fun z => ?_
  ·refine (We w L7 MI m121 m22).imp fun f L h n k w => ?_
   revert w; refine fun z_ => xo0_3 z_ fun e0_ e1_ w => ?_; clear z_; obtain rfl := e0_; obtain rfl := e1_
   exact go_next (xs_nil (go_next (xs_nil ⟨rfl, rfl, w⟩)))
  ·have z8 := of_decide_eq_false z
   repeat walk_at "e"
   refine it_s (fun z => ?_) fun z => ?_
   ·refine (Be w L7 MI m123 m22).imp fun f L h n k w => ?_
    revert w; refine fun z_ => xo0_3 z_ fun e0_ e1_ w => ?_; clear z_; obtain rfl := e0_; obtain rfl := e1_
    exact go_next (xs_nil (go_next (xs_nil (go_next (xs_nil ⟨rfl, rfl, w⟩)))))
   ·have z7 := of_decide_eq_false z
    refine (De w p xc L7 a d Φ F lo lh ll hr la7 I (by omega) m106 m107 m121 m108 m22 m109 hp).imp fun f L h n k w => ?_
    revert w; refine fun z_ => xo0_3 z_ fun e0_ e1_ w => ?_; clear z_; obtain rfl := e0_; obtain rfl := e1_
    exact go_next (xs_nil (go_next (xs_nil (go_next (xs_nil ⟨rfl, rfl, w⟩)))))
end
end
section
open PySem PySem.W PyProof.Rows
section
variable {C : Nat → List AV → St → R AV} {E : Est} {k n : Nat} {h : Hp} {L : Lo} {M : Nat} {a d : Nat → Nat} {F : Hp} {Φ : Fo} {t : Nat} {ns gs : List Int} {Φ' : Fo} {h' : Hp} {n' iter lo lh N : Nat} {io : AO} {xs : List Int} {start : Int} {ll : Int → Nat} {hr : Int → List Int} {Q : Pst AV}
theorem Wp.ends {P : AV → Hp → Prop} {r : R AV} (w : Wp r (fun v _ h _ _ => P v h) fun _ _ _ _ _ _ => False) : ∃ v s, r = .ok v s ∧ P v s.heap := by
 cases r with
 | ok v s => exact ⟨v, s, rfl, w⟩
 | ex => exact w.elim
 | bad => exact w.elim
theorem Stay.new (I : Stay gs M ns iter io a d Φ F lo lh ll hr h n) (o : AO) : Stay gs M ns n o a d Φ (upd F n o) lo lh ll hr (upd h n o) (n + 1) := by
 have ne : ∀ {l x}, F l = some x → upd F n o l = some x := fun e => by
  have := I.wd.lt e
  rw [upd_ne _ _ (by omega)]; exact e
 refine ⟨I.wd.new o, I.sim, ne I.ro, ne I.own, ne I.here, I.ne, upd_same .., fun g hg => ?_, I.inj⟩
 refine xo0_4 (I.li g hg) fun c1 c2 c3 c4 => ?_
 have := I.wd.lt c1
 exact ⟨ne c1, by omega, c3, c4⟩
theorem Setup.put (I : Setup gs M ns iter io start L h n) {j : Nat} (v : AV) (hj : j ≠ 113 ∧ j ≠ 115 ∧ j ≠ 117 ∧ j ≠ 118 ∧ j ≠ 119 ∧ j ≠ 120) : Setup gs M ns iter io start (put L j v) h n := by
 obtain ⟨l1, l2, a, d, Φ, F, lo, lh, ll, hr, la, I, q1, q2⟩ := I
 exact ⟨(get_put_ne _ _ hj.1.symm).trans l1, (get_put_ne _ _ hj.2.1.symm).trans l2, a, d, Φ, F, lo, lh, ll, hr, la.put v hj.2.2, I, q1, q2⟩
theorem Main.put (I : Main M ns iter io L h n) {j : Nat} (v : AV) (hj : j ≠ 117 ∧ j ≠ 118 ∧ j ≠ 119 ∧ j ≠ 120) : Main M ns iter io (put L j v) h n := by
 obtain ⟨a, d, Φ, F, lo, lh, ll, hr, la, I⟩ := I
 exact ⟨a, d, Φ, F, lo, lh, ll, hr, la.put v hj, I⟩
theorem world0 (xs : List AV) : World 0 1 (fun _ => 0) (fun _ => 0) (fun _ => emp) (fun l => if l = 0 then some (.ro xs) else none) (fun l => if l = 0 then some (.ro xs) else none) 1 := by
 refine ⟨⟨fun _ _ => 0, fun _ _ => 0, fun _ _ => 0, fun l => if l = 0 then some (.ro xs) else none, ⟨fun _ _ _ e => (by cases e), fun _ _ _ e => (by cases e), fun _ _ _ e => (by cases e), fun _ _ _ _ h => (h rfl).elim, fun _ _ _ _ h => (h rfl).elim, fun _ _ _ _ h => (h rfl).elim, fun _ _ _ _ h => (h rfl).elim, fun _ _ e => e, fun _ _ _ _ _ h => (h rfl).elim, fun l o e => ?_⟩, fun t ht => by omega, fun l o e => ⟨e, fun t ht => by omega⟩⟩, fun t u ht => by omega, fun _ _ => rfl⟩
 split at e
 ·omega
 ·exact nsE e
theorem abs_put {P : Lo → Prop} {L : Lo} {j : Nat} {v : AV} (H : ∀ L', (∀ i, i ≠ j → get? L' i = get? L i) → get? L' j = some v → P L') : P (put L j v) := H _ (fun _ e => get_put_ne L v e) (get_put L j v)
theorem sim0 : Sim [] tree0 tree0 fun g => tree0 := by
 have t0 : ∀ i, i ≠ 0 → tree0 i = none := fun i z => (setN_ne _ _ z).trans rfl
 refine ⟨nofun, rfl, fun b hb => ⟨rfl, fun nd e => ?_⟩, nofun, fun i hi => ?_, nofun⟩
 ·rw [t0 b (by unfold Beside at hb; omega)] at e; exact nsE e
 ·by_cases q : i = 0
  ·exact .inl q
  ·exact (hi (t0 i q)).elim
noncomputable def start0 : List Int → Int
 | [] => 0
 | x :: _ => if x < 0 then -x else x
theorem start_ok {p1 p2 p3 p4 p5 p6 p7 p8 : Pos} {j1 j2 : Nat} (l113 : get? L 113 = some (.loc 0)) (g0 : h 0 = some (.ro (ns.map .int))) (q : Q (.int (start0 ns)) L h n k) :
  Wp (evalE sg C (.ife (.lv 113 p1) (.call (.gv 116 p2) (.cons (.sub (.lv 113 p3) (.cst (.int 0) j1 p4) p5) .nil) .nil p6) (.cst (.int 0) j2 p7) p8) ⟨L, h, n, k⟩) Q E := by
 repeat walk_at "e"
 refine t_ro g0 ?_
 cases ns with
 | nil =>
  refine it_f rfl ?_
  exact e_ci q
 | cons x r =>
  refine it_t rfl ?_
  repeat walk_at "e"
  refine i_ro (x := .int x) g0 (by decide) rfl ?_
  repeat walk_at "e"
  exact bi_abs q
theorem walk05 {L0 : Lo} {h0 : Hp} (l113 : get? L0 113 = some (.loc 0)) (hn : ns.length ≤ 63) (X0 : World 0 1 (fun _ => 0) (fun _ => 0) (fun _ => emp) h0 h0 1) (g0 : h0 0 = some (.ro (ns.map .int)))
  (hT : ∀ (k M : Nat) (a d : Nat → Nat) (Φ : Fo) (F h : Hp) (n : Nat) (L : Lo) (Q : Pst AV), World k M a d Φ F h n → 1 ≤ M → (∀ dk h' n', World (k + 1) M (setD a k n) (setD d k dk) (setT Φ k tree0) F h' n' → Q (.loc n) L h' n' 0) → Wp (callV sg C (.gl 68) [] [] ⟨L, h, n, 0⟩) Q E)
  (hS : ∀ (g : Int) (gs : List Int) (M it : Nat) (io : AO) (start : Int) (L : Lo) (h : Hp) (n : Nat), (g = 3 ∨ g = 5 ∨ g = 7) → tg g = 2 + gs.length → gs.length ≤ 3 → g ∉ gs → (∀ g' ∈ gs, tg g' < 2 + gs.length) → (∀ es, io ≠ .dict es) → 1 ≤ M ∧ M < 300 → get? L 121 = some (.int g) → Setup gs M ns it io start L h n →
   Wp (execs sg C (b30.at 5).bdy ⟨L, h, n, 0⟩) (fun f L' h' n' k' => f = .next ∧ k' = 0 ∧ Setup (gs ++ [g]) (M + 4) ns it io start L' h' n') E)
  (hL : ∀ (num : Int) (M it : Nat) (io : AO) (L : Lo) (h : Hp) (n : Nat), M < 250 → Main M ns it io L h n → get? L 122 = some (.int num) → Wp (execs sg C (b30.at 6).bdy ⟨L, h, n, 0⟩) (fun f L' h' n' k' => f = .next ∧ k' = 0 ∧ Main (M + 2) ns it io L' h' n') E) :
  Wp (execs sg C b30 ⟨L0, h0, 1, 0⟩) (fun f _ h _ _ => f = .ret (.bool true) ∧ h 0 = some (.ro (ns.map .int))) E := by
 delta b30
 refine xs_cons ?_
 refine x_asg ?_
 refine start_ok l113 g0 ?_
 refine go_next ?_
 refine abs_put (P := fun L => Wp (execs _ _ _ ⟨L, _, _, _⟩) _ _) fun L1 fL m115 => ?_
 have m113 := (fL 113 (by decide)).trans l113
 clear l113 fL
 repeat walk_at "e"
 refine hT _ _ _ _ _ _ _ _ _ _ X0 (Nat.le_refl _) fun d0 h1 n1 X1 => ?_
 refine go_next ?_
 refine abs_put (P := fun L => Wp (execs _ _ _ ⟨L, _, _, _⟩) _ _) fun L2 fL p117 => ?_
 have p113 := (fL 113 (by decide)).trans m113
 have p115 := (fL 115 (by decide)).trans m115
 clear m113 m115 fL
 repeat walk_at "e"
 refine hT _ _ _ _ _ _ _ _ _ _ X1 (Nat.le_refl _) fun d1 h2 n2 X2 => ?_
 refine go_next ?_
 refine abs_put (P := fun L => Wp (execs _ _ _ ⟨L, _, _, _⟩) _ _) fun L3 fL m118 => ?_
 have m113 := (fL 113 (by decide)).trans p113
 have m115 := (fL 115 (by decide)).trans p115
 have m117 := (fL 117 (by decide)).trans p117
 clear p113 p115 p117 fL
 obtain ⟨a, ea⟩ : ∃ a, a = setD (setD (fun _ => 0) 0 1) (0 + 1) n1 := ⟨_, rfl⟩
 obtain ⟨d, ed⟩ : ∃ d, d = setD (setD (fun _ => 0) 0 d0) (0 + 1) d1 := ⟨_, rfl⟩
 obtain ⟨Φ, eΦ⟩ : ∃ Φ, Φ = setT (setT (fun _ => emp) 0 tree0) (0 + 1) tree0 := ⟨_, rfl⟩
 have a0 : a 0 = 1 := by rw [ea]; rfl
 have a1 : a 1 = n1 := by rw [ea]; rfl
 have f0 : Φ 0 = tree0 := by rw [eΦ]; rfl
 have f1 : Φ 1 = tree0 := by rw [eΦ]; rfl
 rw [← ea, ← ed, ← eΦ] at X2
 rw [← a0] at m117
 rw [← a1] at m118
 clear ea ed eΦ
 repeat walk_at "e"
 have X3 := X2.new (.dict [])
 have l0 : 0 < n2 := X2.lt g0
 have f3 : ∀ i, i ≠ 119 → get? (put L3 119 (.loc n2)) i = get? L3 i := fun _ e => get_put_ne L3 _ e
 have p119 := get_put L3 119 (.loc n2)
 generalize eh3 : upd h2 n2 (.dict []) = h3 at X3 ⊢
 have eh3 := eh3.symm
 repeat walk_at "e"
 have X4 := X3.new (.dict [])
 refine abs_put (P := fun L => Wp (exec _ _ _ ⟨L, _, _, _⟩) _ _) fun L5 fL m120 => ?_
 have m113 := (fL 113 (by decide)).trans ((f3 113 (by decide)).trans m113)
 have m115 := (fL 115 (by decide)).trans ((f3 115 (by decide)).trans m115)
 have m117 := (fL 117 (by decide)).trans ((f3 117 (by decide)).trans m117)
 have m118 := (fL 118 (by decide)).trans ((f3 118 (by decide)).trans m118)
 have m119 := (fL 119 (by decide)).trans p119
 clear f3 p119 fL
 generalize eh4 : upd h3 (n2 + 1) (.dict []) = h4 at X4 ⊢
 have eh4 := eh4.symm
 refine x_for ?_
 repeat walk_at "e"
 refine ⟨Nat.le_of_ble_eq_true rfl, ?_⟩
 have X5 := X4.new (.tup [.int 3, .int 5, .int 7])
 obtain ⟨h5, eh5⟩ : ∃ h5, h5 = upd h4 (n2 + 1 + 1) (.tup [.int 3, .int 5, .int 7]) := ⟨_, rfl⟩
 have g5 : h5 (n2 + 1 + 1) = some (.tup [.int 3, .int 5, .int 7]) := by rw [eh5]; exact upd_same ..
 rw [← eh5] at X5 ⊢
 refine ⟨_, it_tup g5, ?_⟩
 refine forN_wp (xs := [.int 3, .int 5, .int 7]) (fun j L h n k' => k' = 0 ∧ Setup (gs3.take j) (1 + 4 * j) ns (n2 + 1 + 1) (.tup [.int 3, .int 5, .int 7]) (start0 ns) L h n)
  (fun j L h n k' w => ?_) (fun j v L h n k' hv w => ?_) (fun L h n k' w => ?_) 100000 0 (by simp) (Nat.zero_le _) ⟨rfl, ?_⟩
 ·obtain ⟨rfl, _, _, a, d, Φ, F, lo, lh, ll, hr, la, I, _, _⟩ := w
  exact ⟨at_tup (I.wd.get I.iter), Nat.zero_le _⟩
 ·revert w; refine fun z_ => xo0_2 z_ fun e0_ w => ?_; clear z_; obtain rfl := e0_
  have jl : j < 3 := (List.getElem?_eq_some_iff.mp hv).1
  have go : ∀ (g : Int) (gs : List Int), v = .int g → gs3.take j = gs → gs3.take (j + 1) = gs ++ [g] → (g = 3 ∨ g = 5 ∨ g = 7) → tg g = 2 + gs.length → gs.length ≤ 3 → g ∉ gs → (∀ g' ∈ gs, tg g' < 2 + gs.length) →
    Wp (execs sg C (b30.at 5).bdy ⟨put L 121 v, h, n, 0⟩) (fun f L' h' n' k' => f = .next ∧ k' = 0 ∧ Setup (gs3.take (j + 1)) (1 + 4 * (j + 1)) ns (n2 + 1 + 1) (.tup [.int 3, .int 5, .int 7]) (start0 ns) L' h' n') E := fun g gs e1 e2 e3 c1 c2 c3 c4 c5 => by
   rw [e2] at w
   rw [e3, e1]
   exact hS g gs (1 + 4 * j) _ _ _ _ _ _ c1 c2 c3 c4 c5 nofun (by omega) (get_put _ _ _) (w.put (j := 121) (.int g) (by decide))
  refine t_nm ?_
  refine Wp.imp (Q := fun f L' h' n' k' => f = .next ∧ k' = 0 ∧ Setup (gs3.take (j + 1)) (1 + 4 * (j + 1)) ns (n2 + 1 + 1) (.tup [.int 3, .int 5, .int 7]) (start0 ns) L' h' n') ?_ fun f L h n k w => ?_
  ·have : j = 0 ∨ j = 1 ∨ j = 2 := by omega
   rcases this with rfl | rfl | rfl
   ·exact go 3 [] (by cases hv; rfl) rfl rfl (.inl rfl) rfl (by decide) (by decide) (by decide)
   ·exact go 5 [3] (by cases hv; rfl) rfl rfl (.inr (.inl rfl)) rfl (by decide) (by decide) (by decide)
   ·exact go 7 [3, 5] (by cases hv; rfl) rfl rfl (.inr (.inr rfl)) rfl (by decide) (by decide) (by decide)
  ·revert w; refine fun z_ => xo0_2 z_ fun e0_ w => ?_; clear z_; obtain rfl := e0_
   exact w
 ·obtain ⟨rfl, q113, _, a, d, Φ, F, lo, lh, ll, hr, la, I, _, _⟩ := w
  replace I : Stay gs3 13 ns (n2 + 1 + 1) (.tup [.int 3, .int 5, .int 7]) a d Φ F lo lh ll hr h n := I
  refine go_next ?_
  refine xs_cons ?_
  refine x_for ?_
  refine e_bin ?_
  refine e_upto ?_
  repeat walk_at "e"
  refine ⟨0, 14, _, rfl, rfl, .inr (I.wd.get I.ro), by decide, by rw [List.length_map]; omega, ?_⟩
  have I1 := I.new (.list ((ns.map AV.int).take (14 : Int).toNat))
  obtain ⟨h1, eh1⟩ : ∃ h1, h1 = upd h n (.list ((ns.map AV.int).take (14 : Int).toNat)) := ⟨_, rfl⟩
  have g1 : h1 n = some (.list ((ns.map AV.int).take (14 : Int).toNat)) := by rw [eh1]; exact upd_same ..
  rw [← eh1] at I1 ⊢
  repeat walk_at "e"
  refine ⟨Nat.le_of_ble_eq_true rfl, ?_⟩
  have I2 := I1.new (.list [.int 12])
  obtain ⟨h2, eh2⟩ : ∃ h2, h2 = upd h1 (n + 1) (.list [.int 12]) := ⟨_, rfl⟩
  have g2 : h2 (n + 1) = some (.list [.int 12]) := by rw [eh2]; exact upd_same ..
  have g12 : h2 n = some (.list ((ns.map AV.int).take (14 : Int).toNat)) := by rw [eh2, upd_ne _ _ (by omega)]; exact g1
  rw [← eh2] at I2 ⊢
  repeat walk_at "e"
  refine o_rep g2 (by decide) ?_
  have I3 := I2.new (.list (List.replicate (4 : Int).toNat [AV.int 12]).flatten)
  obtain ⟨h3, eh3⟩ : ∃ h3, h3 = upd h2 (n + 1 + 1) (.list (List.replicate (4 : Int).toNat [AV.int 12]).flatten) := ⟨_, rfl⟩
  have g3 : h3 (n + 1 + 1) = some (.list (List.replicate (4 : Int).toNat [AV.int 12]).flatten) := by rw [eh3]; exact upd_same ..
  have g13 : h3 n = some (.list ((ns.map AV.int).take (14 : Int).toNat)) := by rw [eh3, upd_ne _ _ (by omega)]; exact g12
  rw [← eh3] at I3 ⊢
  have eit : (ns.map AV.int).take (14 : Int).toNat ++ (List.replicate (4 : Int).toNat [AV.int 12]).flatten = (ns.take 14 ++ [12, 12, 12, 12]).map .int := by
   rw [List.map_append, List.map_take]; rfl
  have len : (ns.take 14 ++ [12, 12, 12, 12]).length ≤ 18 := by
   rw [List.length_append, List.length_take]
   show min 14 ns.length + 4 ≤ 18
   omega
  refine o_cat g13 g3 (by rw [← List.length_append, eit, List.length_map]; omega) ?_
  rw [eit]
  have I4 := I3.new (.list ((ns.take 14 ++ [12, 12, 12, 12]).map .int))
  generalize eh4 : upd h3 (n + 1 + 1 + 1) (.list ((ns.take 14 ++ [12, 12, 12, 12]).map .int)) = h4 at I4 ⊢
  have eh4 := eh4.symm
  have MI : Main 13 ns (n + 1 + 1 + 1) (.list ((ns.take 14 ++ [12, 12, 12, 12]).map .int)) L h4 (n + 1 + 1 + 1 + 1) := ⟨a, d, Φ, _, lo, lh, ll, hr, la, I4⟩
  obtain ⟨it, eit2⟩ : ∃ it, it = n + 1 + 1 + 1 := ⟨_, rfl⟩
  generalize eits : ns.take 14 ++ [12, 12, 12, 12] = its at MI len
  have eits := eits.symm
  rw [← eit2] at MI ⊢
  have g4 : h4 it = some (.list (its.map .int)) := by rw [eh4, eit2, eits]; exact upd_same ..
  refine ⟨_, it_list g4, ?_⟩
  refine forN_wp (xs := its.map .int) (fun j L h n k' => k' = 0 ∧ Main (13 + 2 * j) ns it (.list (its.map .int)) L h n)
   (fun j L h n k' w => ?_) (fun j v L h n k' hv w => ?_) (fun L h n k' w => ?_) 100000 0 (by rw [List.length_map]; omega) (Nat.zero_le _) ⟨rfl, MI⟩
  ·obtain ⟨rfl, a, d, Φ, F, lo, lh, ll, hr, la, I⟩ := w
   exact ⟨at_list (I.1.get I.iter), Nat.zero_le _⟩
  ·revert w; refine fun z_ => xo0_2 z_ fun e0_ w => ?_; clear z_; obtain rfl := e0_
   have jl : j < its.length := by
    have := (List.getElem?_eq_some_iff.mp hv).1
    rwa [List.length_map] at this
   obtain ⟨num, e1, rfl⟩ : ∃ num, its[j]? = some num ∧ AV.int num = v := by
    rw [List.getElem?_map] at hv
    cases q : its[j]? with
    | none => rw [q] at hv; exact nsE hv
    | some y => rw [q] at hv; exact ⟨y, rfl, Option.some.inj hv⟩
   refine t_nm ?_
   refine Wp.imp (hL num (13 + 2 * j) _ _ _ _ _ (by omega) (w.put (j := 122) (.int num) (by decide)) (get_put _ _ _)) fun f L h n k w => ?_
   revert w; refine fun z_ => xo0_3 z_ fun e0_ e1_ w => ?_; clear z_; obtain rfl := e0_; obtain rfl := e1_
   exact ⟨rfl, w⟩
  ·obtain ⟨rfl, a, d, Φ, F, lo, lh, ll, hr, la, I⟩ := w
   refine go_next ?_
   repeat walk_at "e"
   exact ⟨rfl, I.1.get I.ro⟩
 ·have ne1 : n2 ≠ n2 + 1 := by omega
  refine ⟨m113, m115, a, d, Φ, _, n2, n2 + 1, fun _ => 0, fun _ => [], ⟨m117, m118, m119, m120⟩, ⟨X5, ?_, ?_, ?_, ?_, ne1, upd_same .., nofun, nofun⟩, fun i hi => .inl ?_, fun i hi => .inl ?_⟩
  ·rw [f0, f1]; exact sim0.congr nofun
  ·rw [upd_ne _ _ (by omega), upd_ne _ _ (by omega), upd_ne _ _ (by omega)]; exact g0
  ·rw [upd_ne _ _ (by omega), upd_ne _ _ (by omega)]; exact upd_same ..
  ·rw [upd_ne _ _ (by omega)]; exact upd_same ..
  ·rw [f0] at hi
   exact Classical.byContradiction fun z => hi ((setN_ne _ _ z).trans rfl)
  ·rw [f1] at hi
   exact Classical.byContradiction fun z => hi ((setN_ne _ _ z).trans rfl)
theorem call05 (ns : List Int) (hn : ns.length ≤ 63) : Wp (callF sg (300 + 1) 30 [.loc 0] ⟨[], fun l => if l = 0 then some (.ro (ns.map .int)) else none, 1, 0⟩) (fun v _ h _ _ => v = .bool true ∧ h 0 = some (.ro (ns.map .int))) fun _ _ _ _ _ _ => False := by
 have X0 := world0 (ns.map .int)
 obtain ⟨h0, eh0⟩ : ∃ h0, h0 = fun l => if l = 0 then some (AO.ro (ns.map .int)) else none := ⟨_, rfl⟩
 have g0 : h0 0 = some (.ro (ns.map .int)) := by rw [eh0]; exact if_pos rfl
 rw [← eh0] at X0 ⊢
 refine c_in rfl ?_
 show Wp (execs sg _ b30 ⟨[(113, .loc 0)], h0, 1, 0⟩) _ _
 obtain ⟨L0, eL0⟩ : ∃ L0 : Lo, L0 = [(113, .loc 0)] := ⟨_, rfl⟩
 have l113 : get? L0 113 = some (.loc 0) := by rw [eL0]; rfl
 rw [← eL0]
 clear eL0
 refine Wp.imp (walk05 (C := callF sg 300) l113 hn X0 g0 (fun k M a d Φ F h n L Q X hM hQ => World.tree 296 X hM hQ) (fun g gs M it io start L h n c1 c2 c3 c4 c5 c6 c7 c8 I => setup c1 c2 c3 c4 c5 c6 c7 c8 I) fun num M it io L h n hM I hl => line hM I hl) fun f L h n k w => ?_
 revert w; refine fun z_ => xo0_2 z_ fun e0_ w => ?_; clear z_; obtain rfl := e0_
 exact bk_ret ⟨rfl, w⟩
theorem run05 (ns : List Int) (hn : ns.length ≤ 63) : ∃ st', callF sg 301 30 [.loc 0] (st0 (ns.map .int)) = .ok (.bool true) st' ∧ st'.heap 0 = some (.ro (ns.map .int)) := by
 refine xo2_3 ((call05 ns hn).ends) fun v s e e3_ e2 => ?_; obtain rfl := e3_
 exact ⟨s, e, e2⟩
end
end
end Mine
section
open PySem PySem.W PyProof.Rows
noncomputable def Mine.rq : PySem.W.OpenLaw := { prog := Mine.pq, name := Mine.nm 114, about := [Mine.nm 68, Mine.nm 104], foot := 2, most := some 63, bound := none, writes := false }
theorem Mine.rq_eq : PySem.Challenge.rw_iv0035_05 = Mine.rq := by kernel_rfl
theorem Mine.rq_said : Mine.rq.wellSaid = true := by kernel_rfl
set_option maxHeartbeats 8000000 in
theorem Mine.fin05 (run : ∀ ns : List Int, ns.length ≤ 63 → ∃ st', Mine.callF Mine.sg 301 30 [.loc 0] (Mine.st0 (ns.map .int)) = .ok (.bool true) st' ∧ st'.heap 0 = some (.ro (ns.map .int))) : Mine.rq.Holds := by
 w_on
 refine holds_law Mine.rq_said fun said => ?_
 refine holds_open (q := Mine.vw) (loose := Mine.loose) (Xt := Mine.Xt) (XP := XL Mine.vw []) (Yf := Mine.Yf) (Ya := Mine.Ya) (YP := Mine.YP) (N := 8000) ?hl Mine.YP.of Mine.YP.keeps
  (fun s e => xl_of s (Bool.and_eq_true_iff.mp e).1) XL.keeps (by rfl) (by rfl) (by rfl) (fun s e => recFacts_of (Bool.and_eq_true_iff.mp e).2) (by rfl) (by assumption) (by decide +kernel) ⟨rfl, rfl, rfl, rfl, rfl, by decide +kernel⟩ ?hw ?hc
 case hl => exact Mine.left
 case hw => exact ⟨[.list [.int 3, .int 1]], by decide +kernel, by decide +kernel⟩
 case hc =>
  k_fill
  intro w s₀ s₁ mg mb G Y a o pm cd doc dV kV ho hd hcd hD hmg hg args vals as hpre hlay hrd hwl hlo
  refine Ground.open G ?_
  intro T B D TE TW
  clear hd hcd hD TE TW D
  wrow_args hpre hlay hrd hwl hlo
  rename ¬ ((63 : Nat) : Int) < _ => h63
  rename IntsAre _ _ => hI
  rename (s₁.heap.IsList _ _) => hL
  have hlen := Int.not_lt.mp h63
  have KX : (Mine.K w.params).In s₁.heap := Y.1
  have e1 : nsIn (Mine.K w.params) mainGlobals (Mine.nm 114) = some (some (.ref 364)) := Mine.law_at w.params
  have e2 : mg (Mine.nm 114) = some (.ref a) := hmg
  have e3 := (mg_of KX T.g e1).symm.trans e2
  cases e3
  refine Mine.law05 KX T.nolimit T.g T.b T.builtins (Mine.YP.sm Y) hL hI (by omega) rfl rfl (by decide) (by decide) (run _ (by omega)) fun s' hk hs => ?_
  refine GoodW.toG ?_
  refine ⟨.inl ⟨.bool true, .bool true, [], rfl, fun cls => ?_, .bool true, ?_, fun _ => ⟨.nil, fun _ h => nomatch h⟩⟩, hk, ?_, ?_⟩
  ·rfl
  ·exact postW_of (r := Mine.rq.row.toRowW) (X := true) (by rfl) (by wtm_val) rfl
  ·rw [hs]
  ·rw [hs]; exact hg
end
theorem PySem.Challenge.cw_iv0035_05_holds : PySem.Challenge.rw_iv0035_05.Holds := by
 rw [Mine.rq_eq]
 exact Mine.fin05 Mine.run05
